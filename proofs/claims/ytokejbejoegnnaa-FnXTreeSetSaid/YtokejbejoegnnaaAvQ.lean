/-
  Entries by their keys; answers compared; all trees asked.
-/
import Derived.Test.YtokejbejoegnnaaAvZ
namespace Go.Proofs.Ytokejbejoegnnaa.E
open Go Tr
set_option linter.unusedSimpArgs false
set_option linter.unusedVariables false
set_option maxRecDepth 100000
set_option maxHeartbeats 4000000

/-! ## Entries -/
def enK (more : Int) (s : List It2) (x : Int) : List It2 := if x ∈ s.map kx then s else s ++ [(x, (s.length : Nat) + 1 + more)]
def enAll (more : Int) (s : List It2) : List Int → List It2
  | [] => s
  | x :: l => enAll more (enK more s x) l
theorem enAll_snoc (more : Int) : ∀ (l : List Int) (x : Int) (s : List It2), enAll more s (l ++ [x]) = enK more (enAll more s l) x
  | [], _, _ => rfl
  | y :: l, x, s => by simp only [List.cons_append, enAll, enAll_snoc more l]
theorem enK_keys (more : Int) (s : List It2) (x : Int) : (enK more s x).map kx = addK (s.map kx) x := by
  unfold enK addK
  split
  · rfl
  · simp [kx]
theorem enAll_keys (more : Int) : ∀ (l : List Int) (s : List It2), (enAll more s l).map kx = addAll (s.map kx) l
  | [], _ => rfl
  | x :: l, s => by rw [enAll, enAll_keys more l, enK_keys, addAll]
theorem enAll_len (more : Int) (l : List Int) : (enAll more [] l).length ≤ l.length := by
  have h := addAll_len l []
  have := enAll_keys more l []
  have h2 : (enAll more [] l).length = (addAll [] l).length := by rw [← List.length_map (f := kx), this]; rfl
  rw [h2]; simpa using h
theorem enAll_nodup (more : Int) (l : List Int) : ((enAll more [] l).map kx).Nodup := by
  rw [enAll_keys]; exact addAll_nodup l List.nodup_nil
theorem callV_enter {P : Program} {f : FuncId} {args caps : Array Value} {w : World} (h : ∀ args w, (callFunc f args).run P w = .ok (.enter f args) w) :
    (callV (.func (.func f) #[] caps) args).run P w = .ok (.enter f (args ++ caps)) w := by
  have e := h (args ++ caps) w
  simp [callV, Deferred.ofValue, invoke, e]
theorem ent23 : ∀ args w, (callFunc 23 args).run Try.prog w = .ok (.enter 23 args) w := enters_of Try.func23 (by kernel_rfl) rfl
/-- ContainsFunc, of keys. -/
theorem F22_spec {k : Value → W} {w : World} {p : Option Addr} {l c n : Nat} {xs : List It2} {x : Int} (hX : Edges w p xs) (hl : l = xs.length) (hb : xs.length < 100000) (hn : Blk w n 59 [.int .i16 x]) (hx : -32768 ≤ x ∧ x < 32768)
    (hk : ∀ w', Fr (fun _ => False) w w' → k (.bool (decide (x ∈ xs.map kx))) w') : F22 k p l c (.func (.func 23) #[] #[.pointer (some ⟨n, 0, none⟩)]) w := by
  subst hl
  unfold F22
  refine F41_call ?_
  unfold F41
  refine F41_L1_rule (fun sp sl sc f x5 x6 w' => sp = p ∧ sl = xs.length ∧ f = .func (.func 23) #[] #[.pointer (some ⟨n, 0, none⟩)] ∧ x5 = (xs.length : Nat) ∧ ∃ i : Nat, x6 = i ∧ i ≤ xs.length ∧ x ∉ (xs.take i).map kx ∧ Fr (fun _ => False) w w')
    (fun _ _ _ _ x5 x6 _ => (x5 - x6).toNat) ?_ ⟨rfl, rfl, rfl, rfl, 0, rfl, Nat.zero_le _, by simp, Fr.refl _ _⟩
  rintro sp sl sc f x5 x6 w2 ⟨e1, e2, e3, rfl, i, rfl, hi, hno, f2⟩
  obtain rfl := e1.symm; obtain rfl := e2.symm; obtain rfl := e3.symm
  unfold F41_L1
  by_cases hil : i < xs.length
  rotate_left
  · have : i = xs.length := by omega
    subst this
    rw [decide_eq_false (by omega)]
    simp only [BIf_false]
    refine back_int ?_
    rw [show decide ((-1 : Int) ≥ 0) = false from rfl]
    rw [List.take_length] at hno
    have := hk w2 f2
    rw [decide_eq_false hno] at this
    exact this
  rw [decide_eq_true (by omega)]
  have hget : xs[i]? = some (xs[i]'(by omega)) := List.getElem?_eq_getElem _
  generalize hq : xs[i]'(by omega) = q at hget
  obtain ⟨a, rfl, c1, c2⟩ := hX.fr0 f2 i q hget
  simp only [BIf_true, NN_mk, Int.toNat_natCast]
  refine ⟨by omega, LoadT_int.2 ⟨_, c1, LoadT_int.2 ⟨_, c2, ?_⟩⟩⟩
  refine NextT_enter (callV_enter ent23) ?_
  refine F23_calls ?_
  unfold F23
  refine new_intro fun m w3 e3 b3 f3 z3 => ?_
  refine load_int (i := 0) b3 rfl ?_
  refine load_int (i := 0) ((hn.fr f2 id).fr f3 id) rfl ?_
  rw [wrap_i64 (by omega) (by omega)]
  refine bind_intro (back_bool ?_)
  have f03 := f2.trans f3 fun _ h => h.elim
  by_cases he : q.1 = x
  · rw [show (q.1 == x) = true by simpa using he]
    simp only [BIf_true]
    refine back_int ?_
    rw [decide_eq_true (show ((i : Nat) : Int) ≥ 0 by omega)]
    have := hk w3 f03
    have hm : x ∈ xs.map kx := List.mem_map.2 ⟨q, List.mem_of_getElem? hget, he⟩
    rw [decide_eq_true hm] at this
    exact this
  · rw [show (q.1 == x) = false by simpa using he]
    simp only [BIf_false]
    rw [add_one (by omega)]
    refine ⟨⟨(by trivial), (by trivial), (by trivial), (by trivial), i + 1, rfl, by omega, ?_, f03⟩, by omega⟩
    rw [take_snoc hget, List.map_append, List.mem_append, not_or]
    exact ⟨hno, by simpa [kx] using fun h => he h.symm⟩
/-- dvEntries. -/
theorem F12_spec {k : Value → W} {w : World} {p : Option Addr} {l c : Nat} {xs : List Int} {more : Int} (hX : Shorts w p xs) (hl : l = xs.length) (hb : xs.length < 1000) (hx : I16 xs) (hm : 0 ≤ more ∧ more ≤ 1000)
    (hk : ∀ q c' w', OwnN w' 40 2 q (enAll more [] xs).length c' (flat (enAll more [] xs)) → (∀ b, bl q b → w.heap.size ≤ b) → Fr (fun _ => False) w w' → k (.slice q (enAll more [] xs).length c') w') : F12 k p l c more w := by
  subst hl
  unfold F12
  refine F12_L1_rule (fun mr op ol oc sp sl sc x6 x7 w' => mr = more ∧ sp = p ∧ sl = xs.length ∧ x6 = (xs.length : Nat) ∧ ∃ i : Nat, x7 = i ∧ i ≤ xs.length ∧ ol = (enAll more [] (xs.take i)).length ∧ OwnN w' 40 2 op ol oc (flat (enAll more [] (xs.take i))) ∧ (∀ b, bl op b → w.heap.size ≤ b) ∧ Fr (fun _ => False) w w')
    (fun _ _ _ _ _ _ _ x6 x7 _ => (x6 - x7).toNat) ?_ ⟨rfl, rfl, rfl, rfl, 0, rfl, Nat.zero_le _, rfl, OwnN.nil _ _ _, fun b hb => (by obtain ⟨a, h, _⟩ := hb; cases h), Fr.refl _ _⟩
  rintro mr op ol oc sp sl sc x6 x7 w2 ⟨e0, e1, e2, rfl, i, rfl, hi, rfl, o2, hb2, f2⟩
  obtain rfl := e0.symm; obtain rfl := e1.symm; obtain rfl := e2.symm
  unfold F12_L1
  by_cases hil : i < xs.length
  rotate_left
  · have : i = xs.length := by omega
    subst this
    rw [decide_eq_false (by omega)]
    simp only [BIf_false]
    rw [List.take_length] at o2 ⊢
    exact hk _ _ w2 o2 hb2 f2
  rw [decide_eq_true (by omega)]
  have hget : xs[i]? = some (xs[i]'(by omega)) := List.getElem?_eq_getElem _
  generalize xs[i]'(by omega) = x at hget
  have hxx := hx x (List.mem_of_getElem? hget)
  obtain ⟨a, rfl, c1⟩ := hX.fr0 f2 i x hget
  simp only [BIf_true, NN_mk, Int.toNat_natCast]
  refine ⟨by omega, LoadT_int.2 ⟨_, c1, ?_⟩⟩
  refine new_intro fun n w3 e3 b3 f3 z3 => ?_
  refine store_intro (i := 0) b3 (by simp) rfl fun w4 b4 f4 z4 => ?_
  have f24 : Fr (fun _ => False) w2 w4 := f3.trans f4 fun b h => .inr (by have : b = n := h; omega)
  have o4 := o2.fr f24 fun _ _ h => h
  have hlen := enAll_len more (xs.take i)
  have htk : (xs.take i).length = i := by simp; omega
  refine F22_call (F22_spec (x := x) o4.pairs rfl (by omega) b4 hxx fun w5 f5 => back_bool ?_)
  have o5 := o4.fr f5 fun _ _ h => h
  have f05 := (f2.trans f24 fun _ h => h.elim).trans f5 fun _ h => h.elim
  by_cases hm' : x ∈ (enAll more [] (xs.take i)).map kx
  · rw [decide_eq_true hm']
    simp only [Bool.not_true, BIf_false]
    rw [add_one (by omega)]
    have hsame : enAll more [] (xs.take (i + 1)) = enAll more [] (xs.take i) := by
      rw [take_snoc hget, enAll_snoc, enK, if_pos hm']
    exact ⟨⟨(by trivial), (by trivial), (by trivial), (by trivial), i + 1, rfl, by omega, by rw [hsame], by rw [hsame]; exact o5, hb2, f05⟩, by omega⟩
  · rw [decide_eq_false hm']
    simp only [Bool.not_false, BIf_true]
    refine load_int (i := 0) (b4.fr f5 id) rfl ?_
    have e1 : addI .i64 (((enAll more [] (xs.take i)).length : Nat) : Int) 1 = ((enAll more [] (xs.take i)).length : Nat) + 1 := addI_i64 (by omega) (by omega)
    rw [wrap_i64 (by omega) (by omega), e1, addI_i64 (by omega) (by omega)]
    refine qS (x := (x, ((enAll more [] (xs.take i)).length : Nat) + 1 + more)) fun q w6 b6 f6 => ?_
    refine qSa (o5.fr f6 fun _ _ h => h) b6 (by omega) fun p7 c7 w7 o7 hp7 k7 f7 => ?_
    rw [add_one (by omega)]
    have hnew : enAll more [] (xs.take (i + 1)) = enAll more [] (xs.take i) ++ [(x, ((enAll more [] (xs.take i)).length : Nat) + 1 + more)] := by
      rw [take_snoc hget, enAll_snoc, enK, if_neg hm']
    have f06 := f05.trans f6 fun _ h => h.elim
    refine ⟨⟨(by trivial), (by trivial), (by trivial), (by trivial), i + 1, rfl, by omega, by rw [hnew]; simp, by rw [hnew]; exact o7, fun b hb => (hp7 b hb).elim (hb2 b) fun h => by have := f06.size; omega, f06.trans f7 fun b h => .inr (hb2 b h)⟩, by omega⟩

/-! ## Comparisons -/
theorem bools_get (l : List Bool) (i : Nat) : (bools l)[i]? = l[i]?.map .bool := by simp [bools]
/-- slices.Equal, of truths. -/
theorem F14_spec {k : Value → W} {w : World} {p q : Option Addr} {l c m d : Nat} {xs ys : List Bool} (hX : Own w 4 p l c (bools xs)) (hY : Own w 4 q m d (bools ys)) (hb : xs.length < 100000)
    (hk : ∀ w', Fr (fun _ => False) w w' → k (.bool (decide (xs = ys))) w') : F14 k p l c q m d w := by
  have hl : l = xs.length := by simpa [bools] using hX.1.symm
  have hm : m = ys.length := by simpa [bools] using hY.1.symm
  subst hl; subst hm
  unfold F14
  by_cases hlen : xs.length = ys.length
  rotate_left
  · rw [show (((xs.length : Nat) : Int) != ((ys.length : Nat) : Int)) = true by rw [bne_iff_ne]; omega]
    simp only [BIf_true]
    have := hk w (Fr.refl _ _)
    rw [decide_eq_false (fun h => hlen (by rw [h]))] at this
    exact this
  rw [show (((xs.length : Nat) : Int) != ((ys.length : Nat) : Int)) = false by rw [hlen]; simp]
  simp only [BIf_false]
  refine F14_L1_rule (fun sp sl sc tp tl tc x5 x6 w' => sp = p ∧ sl = xs.length ∧ tp = q ∧ tl = ys.length ∧ x5 = (xs.length : Nat) ∧ ∃ i : Nat, x6 = i ∧ i ≤ xs.length ∧ xs.take i = ys.take i ∧ Fr (fun _ => False) w w')
    (fun _ _ _ _ _ _ x5 x6 _ => (x5 - x6).toNat) ?_ ⟨rfl, rfl, rfl, rfl, rfl, 0, rfl, Nat.zero_le _, rfl, Fr.refl _ _⟩
  rintro sp sl sc tp tl tc x5 x6 w2 ⟨e1, e2, e3, e4, rfl, i, rfl, hi, hsame, f2⟩
  obtain rfl := e1.symm; obtain rfl := e2.symm; obtain rfl := e3.symm; obtain rfl := e4.symm
  unfold F14_L1
  by_cases hil : i < xs.length
  rotate_left
  · have : i = xs.length := by omega
    subst this
    rw [decide_eq_false (by omega)]
    simp only [BIf_false]
    rw [List.take_length, hlen, List.take_length] at hsame
    have := hk w2 f2
    rw [decide_eq_true hsame] at this
    exact this
  rw [decide_eq_true (by omega)]
  have hgx : xs[i]? = some (xs[i]'(by omega)) := List.getElem?_eq_getElem _
  have hgy : ys[i]? = some (ys[i]'(by omega)) := List.getElem?_eq_getElem _
  generalize xs[i]'(by omega) = x at hgx
  generalize ys[i]'(by omega) = y at hgy
  simp only [BIf_true]
  refine drw_intro fun w3 f3 z3 => ?_
  have f03 := f2.trans f3 fun _ h => h.elim
  have X3 := hX.fr f03 fun _ _ h => h
  have Y3 := hY.fr f03 fun _ _ h => h
  obtain ⟨xb, _, rfl, _⟩ := X3.get (by omega)
  obtain ⟨yb, _, rfl, _⟩ := Y3.get (by omega)
  simp only [NN_mk, Int.toNat_natCast]
  refine ⟨by omega, LoadT_bool.2 ⟨x, by rw [add_mk, Nat.zero_add, X3.cell (by omega), bools_get, hgx]; rfl, ⟨by omega, LoadT_bool.2 ⟨y, by rw [add_mk, Nat.zero_add, Y3.cell (by omega), bools_get, hgy]; rfl, ?_⟩⟩⟩⟩
  by_cases hxy : x = y
  · rw [show (x == y) = true by simpa using hxy]
    simp only [Bool.not_true, BIf_false]
    rw [add_one (by omega)]
    exact ⟨⟨(by trivial), (by trivial), (by trivial), (by trivial), (by trivial), i + 1, rfl, by omega, by rw [take_snoc hgx, take_snoc hgy, hsame, hxy], f03⟩, by omega⟩
  · rw [show (x == y) = false by simpa using hxy]
    simp only [Bool.not_false, BIf_true]
    have := hk w3 f03
    rw [decide_eq_false (fun h => hxy (by rw [h, hgy] at hgx; cases hgx; rfl))] at this
    exact this
theorem ne40 (x y : Operand) (a b c d : Int) (w : World) : (binS .neq 40 x y (.agg #[.int .i64 a, .int .i64 b]) (.agg #[.int .i64 c, .int .i64 d])).run Try.prog w = .ok (.bool (!(decide ((a, b) = (c, d))))) w := by
  have h1 : Try.prog.underlying 40 = some (.struct (Try.prog.fieldsOf 40)) := by kernel_rfl
  have h2 : Try.prog.stoodInHeld 40 = false := by kernel_rfl
  have h3 : Try.prog.eqGuardType Try.prog.depth 40 = false := by kernel_rfl
  have u3 := Try.underlying3
  have a3 := Try.isAgg3
  have z3 := Try.sizeOf3
  unfold binS
  rw [Sem.run_bind, run_eqGuard_agg w .neq 40 x y _ _ h3, Result.andThen_ok, run_neq_struct, show (10000 : Nat) = 9999 + 1 from rfl, run_equalIn_agg w 9999 40 _ _ h1 h2]
  simp only [Program.fieldsOf, Try.underlying40]
  go_simp
  by_cases hac : a = c <;> by_cases hbd : b = d <;> simp [hac, hbd]
theorem neq40 {x y : Operand} {a b : It2} {K : Bool → W} {w : World} (hk : K (!decide (a = b)) w) : RawS Try.prog (binS .neq 40 x y (.agg #[.int .i64 a.1, .int .i64 a.2]) (.agg #[.int .i64 b.1, .int .i64 b.2])) (.s (.one .bool)) K w :=
  ⟨(!decide (a = b), ()), ne40 x y a.1 a.2 b.1 b.2 w, hk⟩
/-- slices.Equal, of entries. -/
theorem F18_spec {k : Value → W} {w : World} {p q : Option Addr} {l c m d : Nat} {xs ys : List It2} (hX : Edges w p xs) (hY : Edges w q ys) (hl : l = xs.length) (hm : m = ys.length) (hb : xs.length < 100000)
    (hk : ∀ w', Fr (fun _ => False) w w' → k (.bool (decide (xs = ys))) w') : F18 k p l c q m d w := by
  subst hl; subst hm
  unfold F18
  by_cases hlen : xs.length = ys.length
  rotate_left
  · rw [show (((xs.length : Nat) : Int) != ((ys.length : Nat) : Int)) = true by rw [bne_iff_ne]; omega]
    simp only [BIf_true]
    have := hk w (Fr.refl _ _)
    rw [decide_eq_false (fun h => hlen (by rw [h]))] at this
    exact this
  rw [show (((xs.length : Nat) : Int) != ((ys.length : Nat) : Int)) = false by rw [hlen]; simp]
  simp only [BIf_false]
  refine F18_L1_rule (fun sp sl sc tp tl tc x5 x6 w' => sp = p ∧ sl = xs.length ∧ tp = q ∧ tl = ys.length ∧ x5 = (xs.length : Nat) ∧ ∃ i : Nat, x6 = i ∧ i ≤ xs.length ∧ xs.take i = ys.take i ∧ Fr (fun _ => False) w w')
    (fun _ _ _ _ _ _ x5 x6 _ => (x5 - x6).toNat) ?_ ⟨rfl, rfl, rfl, rfl, rfl, 0, rfl, Nat.zero_le _, rfl, Fr.refl _ _⟩
  rintro sp sl sc tp tl tc x5 x6 w2 ⟨e1, e2, e3, e4, rfl, i, rfl, hi, hsame, f2⟩
  obtain rfl := e1.symm; obtain rfl := e2.symm; obtain rfl := e3.symm; obtain rfl := e4.symm
  unfold F18_L1
  by_cases hil : i < xs.length
  rotate_left
  · have : i = xs.length := by omega
    subst this
    rw [decide_eq_false (by omega)]
    simp only [BIf_false]
    rw [List.take_length, hlen, List.take_length] at hsame
    have := hk w2 f2
    rw [decide_eq_true hsame] at this
    exact this
  rw [decide_eq_true (by omega)]
  have hgx : xs[i]? = some (xs[i]'(by omega)) := List.getElem?_eq_getElem _
  have hgy : ys[i]? = some (ys[i]'(by omega)) := List.getElem?_eq_getElem _
  generalize xs[i]'(by omega) = x at hgx
  generalize ys[i]'(by omega) = y at hgy
  simp only [BIf_true]
  refine drw_intro fun w3 f3 z3 => ?_
  have f03 := f2.trans f3 fun _ h => h.elim
  obtain ⟨a, rfl, c1, c2⟩ := hX.fr0 f03 i x hgx
  obtain ⟨a', rfl, c1', c2'⟩ := hY.fr0 f03 i y hgy
  simp only [NN_mk, Int.toNat_natCast]
  refine ⟨by omega, LoadT_int.2 ⟨_, c1, LoadT_int.2 ⟨_, c2, ⟨by omega, LoadT_int.2 ⟨_, c1', LoadT_int.2 ⟨_, c2', ?_⟩⟩⟩⟩⟩⟩
  refine neq40 (a := x) (b := y) ?_
  by_cases hxy : x = y
  · rw [decide_eq_true hxy]
    simp only [Bool.not_true, BIf_false]
    rw [add_one (by omega)]
    exact ⟨⟨(by trivial), (by trivial), (by trivial), (by trivial), (by trivial), i + 1, rfl, by omega, by rw [take_snoc hgx, take_snoc hgy, hsame, hxy], f03⟩, by omega⟩
  · rw [decide_eq_false hxy]
    simp only [Bool.not_false, BIf_true]
    have := hk w3 f03
    rw [decide_eq_false (fun h => hxy (by rw [h, hgy] at hgx; cases hgx; rfl))] at this
    exact this
/-- dvSame. -/
theorem F17_spec {k : Value → W} {w : World} {base : Nat} {r r' : SdR} {s s' : Sd} (h : SOk w base r s) (h' : SOk w base r' s') (hb : s.2.length < 100000)
    (hk : ∀ w', Fr (fun _ => False) w w' → k (.bool (decide (s.1 = s'.1 ∧ hass s.2 = hass s'.2 ∧ svals s.2 = svals s'.2))) w') : F17 k r.n r.sp r.sl r.sc r.hp r.hl r.hc r'.n r'.sp r'.sl r'.sc r'.hp r'.hl r'.hc w := by
  unfold F17
  refine new_intro fun n w1 e1 b1 f1 z1 => ?_
  refine new_intro fun m w2 e2 b2 f2 z2 => ?_
  have b1' := b1.fr f2 id
  have f02 := f1.trans f2 fun _ h => h.elim
  refine load_int (i := 0) b1' rfl (load_int (i := 0) b2 rfl ?_)
  rw [h.n, h'.n]
  by_cases h1 : s.1 = s'.1
  rotate_left
  · rw [show (((s.1 : Nat) : Int) == ((s'.1 : Nat) : Int)) = false by rw [beq_eq_false_iff_ne]; omega]
    simp only [BIf_false]
    have := hk w2 f02
    rw [decide_eq_false fun h => h1 h.1] at this
    exact this
  rw [show (((s.1 : Nat) : Int) == ((s'.1 : Nat) : Int)) = true by rw [h1]; simp]
  simp only [BIf_true]
  refine load_slice (i := 2) b1' rfl (load_slice (i := 2) b2 rfl ?_)
  have H := h.fr0 f02
  have H' := h'.fr0 f02
  have hv : (svals s.2).length = s.2.length := by simp [svals]
  have hv' : (svals s'.2).length = s'.2.length := by simp [svals]
  have hh : (hass s.2).length = s.2.length := by simp [hass]
  refine F14_call ?_
  rw [h.hl, h'.hl]
  refine F14_spec H.has H'.has (by omega) fun w3 f3 => back_bool ?_
  have f03 := f02.trans f3 fun _ h => h.elim
  by_cases h2 : hass s.2 = hass s'.2
  rotate_left
  · rw [decide_eq_false h2]
    simp only [BIf_false]
    have := hk w3 f03
    rw [decide_eq_false fun h => h2 h.2.1] at this
    exact this
  rw [decide_eq_true h2]
  simp only [BIf_true]
  refine load_slice (i := 1) (b1'.fr f3 id) rfl (load_slice (i := 1) (b2.fr f3 id) rfl ?_)
  refine F18_call ?_
  rw [h.sl, h'.sl]
  refine F18_spec (xs := svals s.2) (ys := svals s'.2) (H.said.fr f3 fun _ _ h => h).pairs (H'.said.fr f3 fun _ _ h => h).pairs hv.symm hv'.symm (by omega) fun w4 f4 => back_bool ?_
  have := hk w4 (f03.trans f4 fun _ h => h.elim)
  rw [show decide (s.1 = s'.1 ∧ hass s.2 = hass s'.2 ∧ svals s.2 = svals s'.2) = decide (svals s.2 = svals s'.2) by simp [h1, h2]] at this
  exact this

/-! ## Copies of rows -/
theorem edges_read {w : World} {a : Addr} {xs : List It2} (h : Edges w (some a) xs) : ∀ j u, (flat xs)[j]? = some u → w.cell? (a.add j) = some u := by
  have := flat_read (w := w) (a := a) xs 0 fun i q hq => by
    obtain ⟨a', ha, h1, h2⟩ := h i q hq
    cases ha
    rw [add_add] at h1 h2
    rw [Nat.zero_add]
    exact ⟨h1, h2⟩
  intro j u hj
  have h1 := this j u hj
  rwa [Nat.zero_mul, Nat.zero_add] at h1
theorem edges_lt {w : World} {p : Option Addr} {xs : List It2} (h : Edges w p xs) (h0 : 0 < xs.length) {b : Nat} (hb : bl p b) : b < w.heap.size := by
  obtain ⟨a, rfl, rfl⟩ := hb
  obtain ⟨a', ha, c1, _⟩ := h 0 _ (List.getElem?_eq_getElem h0)
  cases ha
  have := cell_lt c1
  have e : ((a.add (0 * 2)).add 0).block = a.block := by simp [Addr.add]
  rwa [e] at this
/-- append of entries to entries. -/
theorem app37 {K : Option Addr → Nat → Nat → W} {w : World} {p q : Option Addr} {l c m d : Nat} {xs ys : List It2} (hX : OwnN w 40 2 p l c (flat xs)) (hl : l = xs.length) (hY : Edges w q ys) (hm : m = ys.length) (h0 : 0 < ys.length) (hb : xs.length + ys.length < 100000)
    (hk : ∀ p' c' w', OwnN w' 40 2 p' (xs ++ ys).length c' (flat (xs ++ ys)) → (∀ b, bl p' b → bl p b ∨ w.heap.size ≤ b) → Fr (fun b => bl p b) w w' → K p' (l + m) c' w') :
    NextT Try.prog (builtin .append #[37, 37] 37 [false, false].toArray [.slice p l c, .slice q m d].toArray) (.s (.one .slice)) K w := by
  obtain ⟨ii, g1, g2, g3, g4⟩ := inf40
  obtain ⟨a, rfl, _⟩ := hY 0 _ (List.getElem?_eq_getElem h0)
  subst hl; subst hm
  refine append_own (P := Try.prog) und37 g1 g2 g3 (by decide) rfl g4 hX (news := flat ys) (m := ys.length) (flat_length _) (edges_read hY) (flat_one _) (by omega) fun p' c' w' f' o' hp' => ?_
  rw [← flat_append] at o'
  exact hk p' c' w' (by rw [List.length_append]; exact o') hp' f'
/-- slices.Clone, of entries. -/
theorem F15_spec {k : Value → W} {w : World} {p : Option Addr} {c l : Nat} {xs : List It2} (hX : Edges w p xs) (hl : l = xs.length) (h0 : 0 < xs.length) (hb : xs.length < 100000)
    (hk : ∀ q c' w', OwnN w' 40 2 q xs.length c' (flat xs) → (∀ b, bl q b → w.heap.size ≤ b) → Fr (fun _ => False) w w' → k (.slice q xs.length c') w') : F15 k p l c w := by
  subst hl
  unfold F15
  obtain ⟨a, rfl, _⟩ := hX 0 _ (List.getElem?_eq_getElem h0)
  simp only [Option.isNone_some, BIf_false]
  obtain ⟨ii, g1, g2, g3, g4⟩ := inf40
  refine build_none und37 g1 fun w1 f1 b1 z1 => ?_
  refine app37 (xs := []) (OwnN.made b1 rfl (by decide)) rfl (hX.fr0 f1) rfl h0 (by simpa using hb) fun p' c' w2 o2 hp2 f2 => ?_
  rw [List.nil_append] at o2
  rw [Nat.zero_add]
  exact hk p' c' w2 o2 (fun b hb => (hp2 b hb).elim (fun ⟨a, h, e⟩ => by cases h; exact Nat.le_of_eq e) fun h => by have := f1.size; omega) (f1.trans f2 fun b ⟨a, h, e⟩ => .inr (by cases h; exact Nat.le_of_eq e))
/-- slices.Clone, of steps. -/
theorem F25_spec {k : Value → W} {w : World} {q c : Nat} {ss : List Stp} (hB : Blk w q 46 (ss.flatMap stc)) (h0 : 0 < ss.length) (hb : ss.length < 1000)
    (hk : ∀ p' c' w', OwnN w' 46 3 p' ss.length c' (ss.flatMap stc) → (∀ b, bl p' b → w.heap.size ≤ b) → Fr (fun _ => False) w w' → k (.slice p' ss.length c') w') : F25 k (some ⟨q, 0, none⟩) ss.length c w := by
  unfold F25
  simp only [Option.isNone_some, BIf_false]
  obtain ⟨ii, g1, g2, g3, g4⟩ := inf46
  refine build_none und47 g1 fun w1 f1 b1 z1 => ?_
  have B1 := hB.fr f1 id
  refine append_own (P := Try.prog) (l := 0) und47 g1 g2 g3 (by decide) rfl g4 (OwnN.made b1 rfl (by decide)) (news := ss.flatMap stc) (m := ss.length) (fm_len stc_len ss) ?_ (fm_one stc_one ss) (by omega) fun p' c' w2 f2 o2 hp2 => ?_
  · intro j u hj
    rw [add_mk, Nat.zero_add, B1.cell]; exact hj
  · rw [List.nil_append] at o2
    rw [Nat.zero_add] at o2 ⊢
    exact hk p' c' w2 o2 (fun b hb => (hp2 b hb).elim (fun ⟨a, h, e⟩ => by cases h; exact Nat.le_of_eq e) fun h => by have := f1.size; omega) (f1.trans f2 fun b ⟨a, h, e⟩ => .inr (by cases h; exact Nat.le_of_eq e))
theorem fill47_1 (a : Stp) : ∀ i : TypeInfo, i.size = 3 → Instr.fill (fun j => some (j * i.size, i.size)) ((Array.range (1 * i.size)).map (z46.cells[· % z46.cells.size]!)) [(0, .agg #[.int .i64 a.op, .int .i64 (a.fm : Nat), .slice a.ip a.es.length a.ic])] = some ([a].flatMap stc).toArray := by
  intro i h
  rw [h]
  kernel_rfl
theorem fill47_2 (a b : Stp) : ∀ i : TypeInfo, i.size = 3 → Instr.fill (fun j => some (j * i.size, i.size)) ((Array.range (2 * i.size)).map (z46.cells[· % z46.cells.size]!)) [(0, .agg #[.int .i64 a.op, .int .i64 (a.fm : Nat), .slice a.ip a.es.length a.ic]), (1, .agg #[.int .i64 b.op, .int .i64 (b.fm : Nat), .slice b.ip b.es.length b.ic])] = some ([a, b].flatMap stc).toArray := by
  intro i h
  rw [h]
  kernel_rfl
theorem fill47_3 (a b c : Stp) : ∀ i : TypeInfo, i.size = 3 → Instr.fill (fun j => some (j * i.size, i.size)) ((Array.range (3 * i.size)).map (z46.cells[· % z46.cells.size]!)) [(0, .agg #[.int .i64 a.op, .int .i64 (a.fm : Nat), .slice a.ip a.es.length a.ic]), (1, .agg #[.int .i64 b.op, .int .i64 (b.fm : Nat), .slice b.ip b.es.length b.ic]), (2, .agg #[.int .i64 c.op, .int .i64 (c.fm : Nat), .slice c.ip c.es.length c.ic])] = some ([a, b, c].flatMap stc).toArray := by
  intro i h
  rw [h]
  kernel_rfl
theorem fill37_2 (x y : It2) : ∀ i : TypeInfo, i.size = 2 → Instr.fill (fun j => some (j * i.size, i.size)) ((Array.range (2 * i.size)).map (z40.cells[· % z40.cells.size]!)) [(0, .agg #[.int .i64 x.1, .int .i64 x.2]), (1, .agg #[.int .i64 y.1, .int .i64 y.2])] = some (flat [x, y]).toArray := by
  intro i h
  rw [h]
  kernel_rfl
theorem fill26_2 (x y : Bool) : ∀ i : TypeInfo, i.size = 1 → Instr.fill (fun j => some (j * i.size, i.size)) ((Array.range (2 * i.size)).map ((Value.bool false).cells[· % (Value.bool false).cells.size]!)) [(0, .bool x), (1, .bool y)] = some (bools [x, y]).toArray := by
  intro i h
  rw [h]
  kernel_rfl
end Go.Proofs.Ytokejbejoegnnaa.E
