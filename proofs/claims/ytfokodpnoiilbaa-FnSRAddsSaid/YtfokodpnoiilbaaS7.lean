/-
  Skip lists of items: insert, get, delete of several; a new list; iterators.
-/
import Derived.Test.YtfokodpnoiilbaaS6
import Derived.Test.YtfokodpnoiilbaaFnsB
namespace Go.Proofs.Ytfokodpnoiilbaa.E
open Go
set_option linter.unusedSimpArgs false
set_option linter.unusedVariables false
set_option maxRecDepth 100000
set_option maxHeartbeats 4000000

abbrev Itm := Int × Int
def enc (x : Itm) : Value := .iface 118 (.agg #[.int .i64 x.1, .int .i64 x.2])
def encO (o : Option Itm) : Value := (o.map enc).getD .nilIface
def keyL : List Value → Int
  | Value.int _ n :: _ => n
  | _ => 0
def keyE : Value → Int
  | Value.iface _ (Value.agg a) => keyL a.toList
  | _ => 0
@[simp] theorem keyE_enc (x : Itm) : keyE (enc x) = x.1 := rfl

/-! ## Comparing -/
theorem meth118 (a b : Itm) (w : World) : (callMethod (enc a) "Compare" [enc b].toArray).run Try.prog w = .ok (.enter 108 #[.agg #[.int .i64 a.1, .int .i64 a.2], enc b]) w := by kernel_rfl
theorem NextT_enter {P : Program} {s : Sem Next} {r : RTy} {f : Fn W r.leaves} {g : FuncId} {args : Array Value} {w w' : World} (h : s.run P w = .ok (.enter g args) w') (hk : Calls P g args w' (Back r f)) : NextT P s r f w := by
  unfold NextT; rw [h]; exact hk
theorem F109_spec {k : Value → W} {w : World} {a b : Int} (hk : k (.int .i64 (ordI a b)) w) : F109 k a b w := by
  unfold F109
  unfold ordI at hk
  refine BIf_intro (fun h => ?_) fun h => BIf_intro (fun h' => ?_) fun h' => ?_
  · have h := of_decide_eq_true h; rw [if_pos h] at hk; exact hk
  · have h := of_decide_eq_false h; have h' := of_decide_eq_true h'; rw [if_neg h, if_pos h'] at hk; exact hk
  · have h := of_decide_eq_false h; have h' := of_decide_eq_false h'; rw [if_neg h, if_neg h'] at hk; exact hk
theorem cmpE {a b : Itm} {f : Int → W} {w : World} (hk : ∀ w', Fr (fun _ => False) w w' → f (ordI a.1 b.1) w') : NextT Try.prog (callMethod (enc a) "Compare" [enc b].toArray) (.s (.one (.int .i64))) f w := by
  refine NextT_enter (meth118 a b w) ?_
  refine F108_calls ?_
  unfold F108
  refine new_intro fun n w1 e1 b1 f1 z1 => ?_
  refine drw_intro fun w2 f2 z2 => ?_
  refine load_int (b1.fr f2 id) rfl ?_
  refine ⟨(b.1, b.2, ()), rfl, ?_⟩
  refine F109_call (F109_spec (back_int (back_int ?_)))
  exact hk w2 (f1.trans f2 fun _ h => h.elim)
theorem cmp_ok (S : Nat → Prop) (w : World) (l : List Itm) (x : Itm) : CmpOk keyE S w (l.map enc) (enc x) x.1 := by
  intro w' _ e he f hk
  obtain ⟨y, _, rfl⟩ := List.mem_map.1 he
  exact cmpE hk

/-! ## Plain -/
def loI (k : Int) (l : List Itm) : List Itm := l.filter fun x => decide (x.1 < k)
def hiI (k : Int) (l : List Itm) : List Itm := l.filter fun x => !decide (x.1 < k)
def gtI (k : Int) (l : List Itm) : List Itm := l.filter fun x => decide (k < x.1)
def putI (l : List Itm) (x : Itm) : List Itm := loI x.1 l ++ x :: gtI x.1 l
def delI (l : List Itm) (x : Itm) : List Itm := loI x.1 l ++ gtI x.1 l
def findI (k : Int) (l : List Itm) : Option Itm := l.find? fun x => decide (x.1 = k)
theorem lo_enc (k : Int) (l : List Itm) : loV keyE k (l.map enc) = (loI k l).map enc := by unfold loV loI; rw [List.filter_map]; rfl
theorem hi_enc (k : Int) (l : List Itm) : hiV keyE k (l.map enc) = (hiI k l).map enc := by unfold hiV hiI; rw [List.filter_map]; rfl
theorem gt_enc (k : Int) (l : List Itm) : gtV keyE k (l.map enc) = (gtI k l).map enc := by unfold gtV gtI; rw [List.filter_map]; rfl
theorem put_enc (l : List Itm) (x : Itm) : putV keyE (enc x) (l.map enc) = (putI l x).map enc := by
  unfold putV putI; rw [keyE_enc, lo_enc, gt_enc]; simp
theorem del_enc (l : List Itm) (x : Itm) : delV keyE x.1 (l.map enc) = (delI l x).map enc := by
  unfold delV delI; rw [lo_enc, gt_enc]; simp
theorem find_enc (k : Int) (l : List Itm) : findV keyE k (l.map enc) = (findI k l).map enc := by
  unfold findV findI; rw [List.find?_map]; rfl
theorem len_put (l : List Itm) (x : Itm) : (putI l x).length ≤ l.length + 1 := by
  have h : ∀ (l : List Itm), (loI x.1 l).length + (gtI x.1 l).length ≤ l.length := fun l => by
    induction l with
    | nil => simp [loI, gtI]
    | cons a l ih =>
      by_cases h1 : a.1 < x.1
      · have e1 : loI x.1 (a :: l) = a :: loI x.1 l := by simp [loI, h1]
        have e2 : gtI x.1 (a :: l) = gtI x.1 l := by simp only [gtI]; rw [List.filter_cons_of_neg]; simp; omega
        rw [e1, e2]; simp only [List.length_cons]; omega
      · have e1 : loI x.1 (a :: l) = loI x.1 l := by simp only [loI]; rw [List.filter_cons_of_neg]; simpa using h1
        rw [e1]
        by_cases h2 : x.1 < a.1
        · have e2 : gtI x.1 (a :: l) = a :: gtI x.1 l := by simp [gtI, h2]
          rw [e2]; simp only [List.length_cons]; omega
        · have e2 : gtI x.1 (a :: l) = gtI x.1 l := by simp only [gtI]; rw [List.filter_cons_of_neg]; simpa using h2
          rw [e2]; simp only [List.length_cons]; omega
  have := h l
  unfold putI; rw [List.length_append, List.length_cons]; omega
theorem len_del (l : List Itm) (x : Itm) : (delI l x).length ≤ l.length := by
  have := len_put l x
  unfold putI at this
  unfold delI
  rw [List.length_append, List.length_cons] at this
  rw [List.length_append]; omega
/-- Several, one by one: what is left, what was there. -/
def runS (s : List Itm → Itm → List Itm) (l : List Itm) (xs : List Itm) : List Itm := xs.foldl s l
def runO (s : List Itm → Itm → List Itm) : List Itm → List Itm → List (Option Itm)
  | _, [] => []
  | l, x :: xs => findI x.1 l :: runO s (s l x) xs
theorem runS_snoc (s : List Itm → Itm → List Itm) (l xs : List Itm) (x : Itm) : runS s l (xs ++ [x]) = s (runS s l xs) x := by unfold runS; rw [List.foldl_append]; rfl
theorem runO_snoc (s : List Itm → Itm → List Itm) : ∀ (l xs : List Itm) (x : Itm), runO s l (xs ++ [x]) = runO s l xs ++ [findI x.1 (runS s l xs)]
  | l, [], x => rfl
  | l, a :: xs, x => by show _ :: runO s _ (xs ++ [x]) = _ :: _; rw [runO_snoc s]; rfl
theorem runO_length (s : List Itm → Itm → List Itm) : ∀ (l xs : List Itm), (runO s l xs).length = xs.length
  | l, [] => rfl
  | l, a :: xs => by show (runO s _ xs).length + 1 = _; rw [runO_length s]; rfl
theorem runS_len (s : List Itm → Itm → List Itm) (hs : ∀ l x, (s l x).length ≤ l.length + 1) : ∀ (xs l : List Itm), (runS s l xs).length ≤ l.length + xs.length
  | [], l => Nat.le_refl _
  | x :: xs, l => by
    have h1 := runS_len s hs xs (s l x)
    have h2 := hs l x
    show (runS s (s l x) xs).length ≤ _
    simp only [List.length_cons]; omega

/-! ## Slices of elements -/
theorem und109 : Try.prog.underlying 109 = some (.slice 114) := by kernel_rfl
theorem und110 : Try.prog.underlying 110 = some (.slice 114) := by kernel_rfl
theorem inf114 : ∃ i, Try.prog.info? 114 = some i ∧ i.size = 1 ∧ i.zero = some .nilIface ∧ i.bytes ≤ 4096 := ⟨_, rfl, by kernel_rfl, by kernel_rfl, Nat.le_of_ble_eq_true (by kernel_rfl)⟩
theorem take_snoc {α : Type} {l : List α} {i : Nat} {x : α} (h : l[i]? = some x) : l.take (i + 1) = l.take i ++ [x] := by
  rw [List.take_add_one, h]; rfl
theorem add64 {a : Nat} (h : a < 4294967296) : addI .i64 ((a : Nat) : Int) 1 = ((a + 1 : Nat) : Int) := (wrap_i64 (by omega) (by omega)).trans (by omega)
theorem own_not {w : World} {S : Nat → Prop} {e : TypeId} {p : Option Addr} {l c : Nat} {vs : List Value} (h : Own w e p l c vs) {ts : List TypeId} (hT : Tys S w ts) (ht : e ∉ ts) : ∀ b, bl p b → ¬ S b := by
  rintro b ⟨a, rfl, rfl⟩ hS
  rcases h.2 with ⟨h, _⟩ | ⟨q, rest, h, hb, _⟩
  · cases h
  · cases h; exact ht (hT _ _ _ hS hb)
theorem own_ty {w : World} {e : TypeId} {p : Option Addr} {l c : Nat} {vs : List Value} (h : Own w e p l c vs) : Tys (fun b => bl p b) w [e] := by
  rintro b u us ⟨a, rfl, rfl⟩ hu
  rcases h.2 with ⟨h, _⟩ | ⟨q, rest, h, hb, _⟩
  · cases h
  · cases h; rw [(hu.unique hb).1]; exact List.mem_cons_self ..
theorem SK.own_ne {w : World} {sl : Nat} {F : Nat → Prop} {vs : List Value} {key : Value → Int} (K : SK key w sl F vs) {p : Option Addr} {l c : Nat} {us : List Value} (h : Own w 114 p l c us) : ∀ b, bl p b → ¬ F b := own_not h K.ty (by decide)

theorem oneC_encO (o : Option Itm) : oneC (encO o) = true := by cases o <;> rfl
theorem oneC'_encO (o : Option Itm) : (encO o).oneCell' = true := by cases o <;> rfl
theorem cells_encO (o : Option Itm) : (encO o).cells = #[encO o] := by cases o <;> rfl
theorem enc_encO (x : Itm) : enc x = encO (some x) := rfl

def getI (l : List Itm) (_ : Itm) : List Itm := l
theorem len_get (l : List Itm) (x : Itm) : (getI l x).length ≤ l.length + 1 := Nat.le_succ _
theorem len_del' (l : List Itm) (x : Itm) : (delI l x).length ≤ l.length + 1 := Nat.le_succ_of_le (len_del l x)
section
variable {w : World} {sl : Nat} {F : Nat → Prop} {l : List Itm}
/-- Insert. -/
theorem F41_spec {k : Value → W} {p : Option Addr} {c : Nat} {xs : List Itm} (K : SK keyE w sl F (l.map enc)) (hlen : l.length + xs.length < 4294967296) (hO : Own w 114 p xs.length c (xs.map enc))
    (hk : ∀ w' F' p' c', SK keyE w' sl F' ((runS putI l xs).map enc) → Fr F w w' → (∀ b, F' b → F b ∨ w.heap.size ≤ b) → Own w' 114 p' xs.length c' ((runO putI l xs).map encO) → (∀ b, bl p' b → w.heap.size ≤ b) → k (.slice p' xs.length c') w') :
    F41 k (some ⟨sl, 0, none⟩) p xs.length c w := by
  obtain ⟨i, g1, g2, g3, g4⟩ := inf114
  have hxc : xs.length ≤ c ∧ c ≤ maxLen := by
    have h1 := hO.1
    rcases hO.2 with ⟨_, h, h'⟩ | ⟨q, rest, _, _, h, h'⟩
    · rw [h, h']; exact ⟨Nat.le_refl _, by decide⟩
    · refine ⟨?_, h'⟩
      rw [← h, List.length_append]; omega
  unfold F41
  refine make_intro (P := Try.prog) 0 xs.length und110 g1 g3 g2 rfl (Nat.le_trans g4 (by decide)) (by omega) (Nat.zero_le _) fun w1 f1 o1 b1 z1 => ?_
  refine F41_L1_rule (I := fun sl' op ol oc ip il ic m j w' => sl' = some ⟨sl, 0, none⟩ ∧ ip = p ∧ il = xs.length ∧ ic = c ∧ m = ((xs.length : Nat) : Int) ∧
      ∃ (t : Nat) (F' : Nat → Prop), j = ((t : Nat) : Int) ∧ t ≤ xs.length ∧ SK keyE w' sl F' ((runS putI l (xs.take t)).map enc) ∧ Fr F w w' ∧ (∀ b, F' b → F b ∨ w.heap.size ≤ b) ∧ ol = t ∧
        Own w' 114 op ol oc ((runO putI l (xs.take t)).map encO) ∧ (∀ b, bl op b → w.heap.size ≤ b))
    (μ := fun sl' op ol oc ip il ic m j w' => xs.length - j.toNat) ?_
    ⟨rfl, rfl, rfl, rfl, rfl, 0, F, rfl, Nat.zero_le _, K.fr0 f1, f1.mono fun _ h => h.elim, fun b hb => .inl hb, rfl, o1, fun b ⟨a, h, e⟩ => by cases h; exact Nat.le_of_eq e⟩
  rintro _ op ol oc _ il ic m j w2 ⟨rfl, rfl, e1, e2, e3, t, F2, rfl, ht, K2, f2, hF2, rfl, O2, hop⟩
  obtain rfl := e2.symm; subst e3
  unfold F41_L1
  rw [e1]
  by_cases hlt : ol < xs.length
  · rw [decide_eq_true (show ((ol : Nat) : Int) < ((xs.length : Nat) : Int) by omega), BIf_true]
    have hx : xs[ol]? = some xs[ol] := List.getElem?_eq_getElem hlt
    have hI2 := hO.fr f2 (K.own_ne hO)
    obtain ⟨q, rest, rfl, hB, _, _⟩ := hI2.get (by omega)
    rw [NN_mk, Req_iff, Int.toNat_natCast, add_mk, Nat.zero_add]
    refine ⟨⟨by omega, by omega⟩, load_any (v := enc xs[ol]) hB (by rw [List.getElem?_append_left (by simpa using hlt), List.getElem?_map, hx]; rfl) ?_⟩
    have hl2 := runS_len putI len_put (xs.take ol) l
    rw [List.length_take] at hl2
    have hz2 := f2.size
    have fin : ∀ (w3 : World) (F3 : Nat → Prop) (v : Value), SK keyE w3 sl F3 ((putI (runS putI l (xs.take ol)) xs[ol]).map enc) → Fr F2 w2 w3 → (∀ b, F3 b → F2 b ∨ w2.heap.size ≤ b) → v = encO (findI xs[ol].1 (runS putI l (xs.take ol))) →
        RawT Try.prog (Instr.buildSlice 110 1 [(0, v)].toArray) (.s (.one .slice)) (fun s13p s13l s13c =>
          NextT Try.prog (builtin .append #[110, 110] 110 [false, false].toArray [.slice op ol oc, .slice s13p s13l s13c].toArray) (.s (.one .slice)) fun s14p s14l s14c =>
          (fun (sl' op' : Option Addr) (ol' oc' : Nat) (ip' : Option Addr) (il' ic' : Nat) (m' j' : Int) (w' : World) => (sl' = some ⟨sl, 0, none⟩ ∧ ip' = some ⟨q, 0, none⟩ ∧ il' = xs.length ∧ ic' = c ∧ m' = ((xs.length : Nat) : Int) ∧
            ∃ (t : Nat) (F' : Nat → Prop), j' = ((t : Nat) : Int) ∧ t ≤ xs.length ∧ SK keyE w' sl F' ((runS putI l (xs.take t)).map enc) ∧ Fr F w w' ∧ (∀ b, F' b → F b ∨ w.heap.size ≤ b) ∧ ol' = t ∧
              Own w' 114 op' ol' oc' ((runO putI l (xs.take t)).map encO) ∧ (∀ b, bl op' b → w.heap.size ≤ b)) ∧ xs.length - j'.toNat < xs.length - ((ol : Nat) : Int).toNat)
            (some ⟨sl, 0, none⟩) s14p s14l s14c (some ⟨q, 0, none⟩) xs.length c ((xs.length : Nat) : Int) (addI .i64 ((ol : Nat) : Int) 1)) w3 := fun w3 F3 v K3 f3 hF3 hv => by
      have O3 := O2.fr f3 (K2.own_ne O2)
      subst hv
      refine append1 (P := Try.prog) und110 g1 g3 g2 rfl g4 O3 (oneC'_encO _) (cells_encO _) (by omega) fun p' c' w4 f4 o4 hp4 hz4 => ?_
      rw [add64 (by omega)]
      have hz3 := f3.size
      refine ⟨⟨rfl, rfl, rfl, rfl, rfl, ol + 1, F3, rfl, hlt, ?_, ?_, fun b hb => ?_, rfl, ?_, fun b hb => ?_⟩, ?_⟩
      · rw [take_snoc hx, runS_snoc]
        exact K3.fr_ty f4 (own_ty O3) (by decide)
      · exact (f2.trans f3 hF2).trans f4 fun b hb => .inr (hop b hb)
      · rcases hF3 b hb with h | h
        · exact hF2 b h
        · exact .inr (by omega)
      · rw [take_snoc hx, runO_snoc, List.map_append]; exact o4
      · rcases hp4 b hb with h | h
        · exact hop b h
        · omega
      · show xs.length - ((ol + 1 : Nat) : Int).toNat < xs.length - ((ol : Nat) : Int).toNat
        omega
    refine F72_call (F72_spec K2 (by rw [List.length_map]; omega) (cmp_ok _ _ _ xs[ol]) rfl fun w3 F3 K3 f3 hF3 => back_any ?_)
    rw [put_enc] at K3
    exact fin w3 F3 _ K3 f3 hF3 (by rw [keyE_enc, find_enc]; rfl)
  · rw [decide_eq_false (show ¬ ((ol : Nat) : Int) < ((xs.length : Nat) : Int) by omega), BIf_false]
    have : ol = xs.length := by omega
    subst this
    rw [List.take_length] at K2 O2
    exact hk w2 F2 op oc K2 f2 hF2 O2 hop
/-- Delete. -/
theorem F47_spec {k : Value → W} {p : Option Addr} {c : Nat} {xs : List Itm} (K : SK keyE w sl F (l.map enc)) (hlen : l.length + xs.length < 4294967296) (hO : Own w 114 p xs.length c (xs.map enc))
    (hk : ∀ w' F' p' c', SK keyE w' sl F' ((runS delI l xs).map enc) → Fr F w w' → (∀ b, F' b → F b ∨ w.heap.size ≤ b) → Own w' 114 p' xs.length c' ((runO delI l xs).map encO) → (∀ b, bl p' b → w.heap.size ≤ b) → k (.slice p' xs.length c') w') :
    F47 k (some ⟨sl, 0, none⟩) p xs.length c w := by
  obtain ⟨i, g1, g2, g3, g4⟩ := inf114
  have hxc : xs.length ≤ c ∧ c ≤ maxLen := by
    have h1 := hO.1
    rcases hO.2 with ⟨_, h, h'⟩ | ⟨q, rest, _, _, h, h'⟩
    · rw [h, h']; exact ⟨Nat.le_refl _, by decide⟩
    · refine ⟨?_, h'⟩
      rw [← h, List.length_append]; omega
  unfold F47
  refine make_intro (P := Try.prog) 0 xs.length und110 g1 g3 g2 rfl (Nat.le_trans g4 (by decide)) (by omega) (Nat.zero_le _) fun w1 f1 o1 b1 z1 => ?_
  refine F47_L1_rule (I := fun sl' op ol oc ip il ic m j w' => sl' = some ⟨sl, 0, none⟩ ∧ ip = p ∧ il = xs.length ∧ ic = c ∧ m = ((xs.length : Nat) : Int) ∧
      ∃ (t : Nat) (F' : Nat → Prop), j = ((t : Nat) : Int) ∧ t ≤ xs.length ∧ SK keyE w' sl F' ((runS delI l (xs.take t)).map enc) ∧ Fr F w w' ∧ (∀ b, F' b → F b ∨ w.heap.size ≤ b) ∧ ol = t ∧
        Own w' 114 op ol oc ((runO delI l (xs.take t)).map encO) ∧ (∀ b, bl op b → w.heap.size ≤ b))
    (μ := fun sl' op ol oc ip il ic m j w' => xs.length - j.toNat) ?_
    ⟨rfl, rfl, rfl, rfl, rfl, 0, F, rfl, Nat.zero_le _, K.fr0 f1, f1.mono fun _ h => h.elim, fun b hb => .inl hb, rfl, o1, fun b ⟨a, h, e⟩ => by cases h; exact Nat.le_of_eq e⟩
  rintro _ op ol oc _ il ic m j w2 ⟨rfl, rfl, e1, e2, e3, t, F2, rfl, ht, K2, f2, hF2, rfl, O2, hop⟩
  obtain rfl := e2.symm; subst e3
  unfold F47_L1
  rw [e1]
  by_cases hlt : ol < xs.length
  · rw [decide_eq_true (show ((ol : Nat) : Int) < ((xs.length : Nat) : Int) by omega), BIf_true]
    have hx : xs[ol]? = some xs[ol] := List.getElem?_eq_getElem hlt
    have hI2 := hO.fr f2 (K.own_ne hO)
    obtain ⟨q, rest, rfl, hB, _, _⟩ := hI2.get (by omega)
    rw [NN_mk, Req_iff, Int.toNat_natCast, add_mk, Nat.zero_add]
    refine ⟨⟨by omega, by omega⟩, load_any (v := enc xs[ol]) hB (by rw [List.getElem?_append_left (by simpa using hlt), List.getElem?_map, hx]; rfl) ?_⟩
    have hl2 := runS_len delI len_del' (xs.take ol) l
    rw [List.length_take] at hl2
    have hz2 := f2.size
    have fin : ∀ (w3 : World) (F3 : Nat → Prop) (v : Value), SK keyE w3 sl F3 ((delI (runS delI l (xs.take ol)) xs[ol]).map enc) → Fr F2 w2 w3 → (∀ b, F3 b → F2 b ∨ w2.heap.size ≤ b) → v = encO (findI xs[ol].1 (runS delI l (xs.take ol))) →
        RawT Try.prog (Instr.buildSlice 110 1 [(0, v)].toArray) (.s (.one .slice)) (fun s13p s13l s13c =>
          NextT Try.prog (builtin .append #[110, 110] 110 [false, false].toArray [.slice op ol oc, .slice s13p s13l s13c].toArray) (.s (.one .slice)) fun s14p s14l s14c =>
          (fun (sl' op' : Option Addr) (ol' oc' : Nat) (ip' : Option Addr) (il' ic' : Nat) (m' j' : Int) (w' : World) => (sl' = some ⟨sl, 0, none⟩ ∧ ip' = some ⟨q, 0, none⟩ ∧ il' = xs.length ∧ ic' = c ∧ m' = ((xs.length : Nat) : Int) ∧
            ∃ (t : Nat) (F' : Nat → Prop), j' = ((t : Nat) : Int) ∧ t ≤ xs.length ∧ SK keyE w' sl F' ((runS delI l (xs.take t)).map enc) ∧ Fr F w w' ∧ (∀ b, F' b → F b ∨ w.heap.size ≤ b) ∧ ol' = t ∧
              Own w' 114 op' ol' oc' ((runO delI l (xs.take t)).map encO) ∧ (∀ b, bl op' b → w.heap.size ≤ b)) ∧ xs.length - j'.toNat < xs.length - ((ol : Nat) : Int).toNat)
            (some ⟨sl, 0, none⟩) s14p s14l s14c (some ⟨q, 0, none⟩) xs.length c ((xs.length : Nat) : Int) (addI .i64 ((ol : Nat) : Int) 1)) w3 := fun w3 F3 v K3 f3 hF3 hv => by
      have O3 := O2.fr f3 (K2.own_ne O2)
      subst hv
      refine append1 (P := Try.prog) und110 g1 g3 g2 rfl g4 O3 (oneC'_encO _) (cells_encO _) (by omega) fun p' c' w4 f4 o4 hp4 hz4 => ?_
      rw [add64 (by omega)]
      have hz3 := f3.size
      refine ⟨⟨rfl, rfl, rfl, rfl, rfl, ol + 1, F3, rfl, hlt, ?_, ?_, fun b hb => ?_, rfl, ?_, fun b hb => ?_⟩, ?_⟩
      · rw [take_snoc hx, runS_snoc]
        exact K3.fr_ty f4 (own_ty O3) (by decide)
      · exact (f2.trans f3 hF2).trans f4 fun b hb => .inr (hop b hb)
      · rcases hF3 b hb with h | h
        · exact hF2 b h
        · exact .inr (by omega)
      · rw [take_snoc hx, runO_snoc, List.map_append]; exact o4
      · rcases hp4 b hb with h | h
        · exact hop b h
        · omega
      · show xs.length - ((ol + 1 : Nat) : Int).toNat < xs.length - ((ol : Nat) : Int).toNat
        omega
    refine F75_call (F75_spec (kq := xs[ol].1) K2 (by rw [List.length_map]; omega) (cmp_ok _ _ _ xs[ol]) fun w3 F3 K3 f3 hF3 => back_any ?_)
    rw [del_enc] at K3
    exact fin w3 F3 _ K3 f3 (fun b hb => .inl (hF3 b hb)) (by rw [find_enc]; rfl)
  · rw [decide_eq_false (show ¬ ((ol : Nat) : Int) < ((xs.length : Nat) : Int) by omega), BIf_false]
    have : ol = xs.length := by omega
    subst this
    rw [List.take_length] at K2 O2
    exact hk w2 F2 op oc K2 f2 hF2 O2 hop
/-- Get. -/
theorem F43_spec {k : Value → W} {p : Option Addr} {c : Nat} {xs : List Itm} (K : SK keyE w sl F (l.map enc)) (hlen : l.length + xs.length < 4294967296) (hO : Own w 114 p xs.length c (xs.map enc))
    (hk : ∀ w' F' p' c', SK keyE w' sl F' ((runS getI l xs).map enc) → Fr F w w' → (∀ b, F' b → F b ∨ w.heap.size ≤ b) → Own w' 114 p' xs.length c' ((runO getI l xs).map encO) → (∀ b, bl p' b → w.heap.size ≤ b) → k (.slice p' xs.length c') w') :
    F43 k (some ⟨sl, 0, none⟩) p xs.length c w := by
  obtain ⟨i, g1, g2, g3, g4⟩ := inf114
  have hxc : xs.length ≤ c ∧ c ≤ maxLen := by
    have h1 := hO.1
    rcases hO.2 with ⟨_, h, h'⟩ | ⟨q, rest, _, _, h, h'⟩
    · rw [h, h']; exact ⟨Nat.le_refl _, by decide⟩
    · refine ⟨?_, h'⟩
      rw [← h, List.length_append]; omega
  unfold F43
  refine make_intro (P := Try.prog) 0 xs.length und110 g1 g3 g2 rfl (Nat.le_trans g4 (by decide)) (by omega) (Nat.zero_le _) fun w1 f1 o1 b1 z1 => ?_
  refine F43_L1_rule (I := fun sl' op ol oc ip il ic m j w' => sl' = some ⟨sl, 0, none⟩ ∧ ip = p ∧ il = xs.length ∧ ic = c ∧ m = ((xs.length : Nat) : Int) ∧
      ∃ (t : Nat) (F' : Nat → Prop), j = ((t : Nat) : Int) ∧ t ≤ xs.length ∧ SK keyE w' sl F' ((runS getI l (xs.take t)).map enc) ∧ Fr F w w' ∧ (∀ b, F' b → F b ∨ w.heap.size ≤ b) ∧ ol = t ∧
        Own w' 114 op ol oc ((runO getI l (xs.take t)).map encO) ∧ (∀ b, bl op b → w.heap.size ≤ b))
    (μ := fun sl' op ol oc ip il ic m j w' => xs.length - j.toNat) ?_
    ⟨rfl, rfl, rfl, rfl, rfl, 0, F, rfl, Nat.zero_le _, K.fr0 f1, f1.mono fun _ h => h.elim, fun b hb => .inl hb, rfl, o1, fun b ⟨a, h, e⟩ => by cases h; exact Nat.le_of_eq e⟩
  rintro _ op ol oc _ il ic m j w2 ⟨rfl, rfl, e1, e2, e3, t, F2, rfl, ht, K2, f2, hF2, rfl, O2, hop⟩
  obtain rfl := e2.symm; subst e3
  unfold F43_L1
  rw [e1]
  by_cases hlt : ol < xs.length
  · rw [decide_eq_true (show ((ol : Nat) : Int) < ((xs.length : Nat) : Int) by omega), BIf_true]
    have hx : xs[ol]? = some xs[ol] := List.getElem?_eq_getElem hlt
    have hI2 := hO.fr f2 (K.own_ne hO)
    obtain ⟨q, rest, rfl, hB, _, _⟩ := hI2.get (by omega)
    rw [NN_mk, Req_iff, Int.toNat_natCast, add_mk, Nat.zero_add]
    refine ⟨⟨by omega, by omega⟩, load_any (v := enc xs[ol]) hB (by rw [List.getElem?_append_left (by simpa using hlt), List.getElem?_map, hx]; rfl) ?_⟩
    have hl2 := runS_len getI len_get (xs.take ol) l
    rw [List.length_take] at hl2
    have hz2 := f2.size
    have fin : ∀ (w3 : World) (F3 : Nat → Prop) (v : Value), SK keyE w3 sl F3 ((getI (runS getI l (xs.take ol)) xs[ol]).map enc) → Fr F2 w2 w3 → (∀ b, F3 b → F2 b ∨ w2.heap.size ≤ b) → v = encO (findI xs[ol].1 (runS getI l (xs.take ol))) →
        RawT Try.prog (Instr.buildSlice 110 1 [(0, v)].toArray) (.s (.one .slice)) (fun s13p s13l s13c =>
          NextT Try.prog (builtin .append #[110, 110] 110 [false, false].toArray [.slice op ol oc, .slice s13p s13l s13c].toArray) (.s (.one .slice)) fun s14p s14l s14c =>
          (fun (sl' op' : Option Addr) (ol' oc' : Nat) (ip' : Option Addr) (il' ic' : Nat) (m' j' : Int) (w' : World) => (sl' = some ⟨sl, 0, none⟩ ∧ ip' = some ⟨q, 0, none⟩ ∧ il' = xs.length ∧ ic' = c ∧ m' = ((xs.length : Nat) : Int) ∧
            ∃ (t : Nat) (F' : Nat → Prop), j' = ((t : Nat) : Int) ∧ t ≤ xs.length ∧ SK keyE w' sl F' ((runS getI l (xs.take t)).map enc) ∧ Fr F w w' ∧ (∀ b, F' b → F b ∨ w.heap.size ≤ b) ∧ ol' = t ∧
              Own w' 114 op' ol' oc' ((runO getI l (xs.take t)).map encO) ∧ (∀ b, bl op' b → w.heap.size ≤ b)) ∧ xs.length - j'.toNat < xs.length - ((ol : Nat) : Int).toNat)
            (some ⟨sl, 0, none⟩) s14p s14l s14c (some ⟨q, 0, none⟩) xs.length c ((xs.length : Nat) : Int) (addI .i64 ((ol : Nat) : Int) 1)) w3 := fun w3 F3 v K3 f3 hF3 hv => by
      have O3 := O2.fr f3 (K2.own_ne O2)
      subst hv
      refine append1 (P := Try.prog) und110 g1 g3 g2 rfl g4 O3 (oneC'_encO _) (cells_encO _) (by omega) fun p' c' w4 f4 o4 hp4 hz4 => ?_
      rw [add64 (by omega)]
      have hz3 := f3.size
      refine ⟨⟨rfl, rfl, rfl, rfl, rfl, ol + 1, F3, rfl, hlt, ?_, ?_, fun b hb => ?_, rfl, ?_, fun b hb => ?_⟩, ?_⟩
      · rw [take_snoc hx, runS_snoc]
        exact K3.fr_ty f4 (own_ty O3) (by decide)
      · exact (f2.trans f3 hF2).trans f4 fun b hb => .inr (hop b hb)
      · rcases hF3 b hb with h | h
        · exact hF2 b h
        · exact .inr (by omega)
      · rw [take_snoc hx, runO_snoc, List.map_append]; exact o4
      · rcases hp4 b hb with h | h
        · exact hop b h
        · omega
      · show xs.length - ((ol + 1 : Nat) : Int).toNat < xs.length - ((ol : Nat) : Int).toNat
        omega
    refine F73_call (F73_sk (kq := xs[ol].1) K2 (by rw [List.length_map]; omega) (cmp_ok _ _ _ xs[ol]) fun w3 x p3 K3 f3 hx3 => back_pu ?_)
    have hso := K3.so
    rcases hx3 with ⟨rfl, hnil⟩ | ⟨n, B, g, v, rfl, hcons, hN, hen⟩
    · rw [oA_none, Option.isNone_none, Bool.not_true, BIf_false]
      unfold F43_J1
      rw [BIf_false]
      refine fin w3 F2 _ K3 f3 (fun b hb => .inl hb) ?_
      rcases hi_head (k := xs[ol].1) hso with ⟨z, B, e1, _⟩ | ⟨_, e1, _⟩
      · rw [hnil] at e1; cases e1
      · rw [find_enc] at e1
        show _ = (Option.map enc _).getD _
        rw [e1]; rfl
    · rw [oA_some, Option.isNone_some, Bool.not_false, BIf_true]
      have hv : v ∈ (runS getI l (xs.take ol)).map enc := (List.mem_filter.1 (show v ∈ hiV keyE xs[ol].1 ((runS getI l (xs.take ol)).map enc) by rw [hcons]; exact List.mem_cons_self ..)).1
      refine F74_call (F74_spec (w0 := w3) hN (cmp_ok (fun _ => False) w3 (runS getI l (xs.take ol)) xs[ol]) (Fr.refl _ _) (by rw [hen]; exact hv) fun w4 f4 => back_int ?_)
      rw [hen, ord_eq]
      have K4 := K3.fr0 f4
      have f24 := f3.trans f4 fun _ h => h.elim
      unfold F43_J1
      rcases hi_head (k := xs[ol].1) hso with ⟨z, B', e1, e2, e3, _⟩ | ⟨e0, e1, _⟩
      · rw [hcons] at e1
        injection e1 with e1 _
        subst e1
        rw [decide_eq_true e2, BIf_true, NN_mk]
        refine load_any (i := 2) (hN.a.fr f4 id) rfl ?_
        refine fin w4 F2 _ K4 f24 (fun b hb => .inl hb) ?_
        rw [find_enc] at e3
        show _ = (Option.map enc _).getD _
        rw [e3, hen]; rfl
      · rw [decide_eq_false (e0 v hv), BIf_false]
        refine fin w4 F2 _ K4 f24 (fun b hb => .inl hb) ?_
        rw [find_enc] at e1
        show _ = (Option.map enc _).getD _
        rw [e1]; rfl
  · rw [decide_eq_false (show ¬ ((ol : Nat) : Int) < ((xs.length : Nat) : Int) by omega), BIf_false]
    have : ol = xs.length := by omega
    subst this
    rw [List.take_length] at K2 O2
    exact hk w2 F2 op oc K2 f2 hF2 O2 hop
end
end Go.Proofs.Ytfokodpnoiilbaa.E
