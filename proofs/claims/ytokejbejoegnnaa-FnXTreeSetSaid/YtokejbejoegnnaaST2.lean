/-
  Steps on a set, one after the other, and what is said behind each.
-/
import Derived.Test.YtokejbejoegnnaaST1
namespace Go.Proofs.Ytokejbejoegnnaa.E
open Go Go.Sort
set_option linter.unusedSimpArgs false
set_option linter.unusedVariables false
set_option maxRecDepth 100000
set_option maxHeartbeats 4000000

def bools (l : List Bool) : List Value := l.map .bool
theorem bools_append (l m : List Bool) : bools (l ++ m) = bools l ++ bools m := List.map_append
/-- What is said behind a step, as its cells lie. -/
structure Rec where
  n : Int
  fp : Option Addr
  fl : Nat
  fc : Nat
  al : Bool
  ep : Option Addr
  el : Nat
  ec : Nat
def rc (r : Rec) : List Value := [.int .i64 r.n, .slice r.fp r.fl r.fc, .bool r.al, .slice r.ep r.el r.ec]
def rflat : List Rec → List Value
  | [] => []
  | r :: l => rc r ++ rflat l
theorem rflat_append : ∀ l m : List Rec, rflat (l ++ m) = rflat l ++ rflat m
  | [], _ => rfl
  | r :: l, m => by simp [rflat, rflat_append l m, rc]
theorem rflat_length : ∀ l : List Rec, (rflat l).length = l.length * 4
  | [] => rfl
  | r :: l => by simp [rflat, rc, rflat_length l]; omega
theorem rflat_one : ∀ (l : List Rec), ∀ u ∈ rflat l, u.oneCell' = true
  | [], u, h => by cases h
  | r :: l, u, h => by
    simp only [rflat, rc, List.mem_append, List.mem_cons, List.not_mem_nil, or_false] at h
    rcases h with (rfl | rfl | rfl | rfl) | h
    · rfl
    · rfl
    · rfl
    · rfl
    · exact rflat_one l u h
theorem rflat_get : ∀ (l : List Rec) (i : Nat) (r : Rec), l[i]? = some r → (rflat l)[i * 4]? = some (.int .i64 r.n) ∧ (rflat l)[i * 4 + 1]? = some (.slice r.fp r.fl r.fc) ∧ (rflat l)[i * 4 + 2]? = some (.bool r.al) ∧ (rflat l)[i * 4 + 3]? = some (.slice r.ep r.el r.ec)
  | [], _, _, h => by cases h
  | x :: l, 0, r, h => by simp at h; subst h; exact ⟨rfl, rfl, rfl, rfl⟩
  | x :: l, i + 1, r, h => by
    have := rflat_get l i r (by simpa using h)
    rw [show (i + 1) * 4 = i * 4 + 1 + 1 + 1 + 1 by omega]
    simpa [rflat, rc] using this
/-- What is said holds of the set S and the items asked for. -/
structure ROk (w : World) (base : Nat) (r : Rec) (S items : List Int) : Prop where
  n : r.n = (S.length : Nat)
  flat : ∃ xs : List Int, xs.Perm S ∧ r.fl = xs.length ∧ Own w 3 r.fp r.fl r.fc (ints xs)
  ex : Own w 4 r.ep r.el r.ec (bools (items.map fun x => decide (x ∈ S)))
  lo : ∀ b, bl r.fp b ∨ bl r.ep b → base ≤ b
theorem ROk.fr {T : Nat → Prop} {w w' : World} {base : Nat} {r : Rec} {S items : List Int} (h : ROk w base r S items) (f : Fr T w w') (hT : ∀ b, T b → b < base ∨ ∃ t us, Blk w b t us ∧ t ≠ 3 ∧ t ≠ 4) : ROk w' base r S items := by
  obtain ⟨h1, ⟨xs, h2, h3, h4⟩, h5, h6⟩ := h
  refine ⟨h1, ⟨xs, h2, h3, h4.fr f fun b hb ht => ?_⟩, h5.fr f fun b hb ht => ?_, h6⟩
  · have := h6 b (.inl hb)
    rcases hT b ht with h | ⟨t, us, g1, g2, g3⟩
    · omega
    · obtain ⟨vs, hv⟩ := h4.blk hb; exact g2 (g1.unique hv).1
  · have := h6 b (.inr hb)
    rcases hT b ht with h | ⟨t, us, g1, g2, g3⟩
    · omega
    · obtain ⟨vs, hv⟩ := h5.blk hb; exact g3 (g1.unique hv).1
theorem ROk.fr0 {w w' : World} {base : Nat} {r : Rec} {S items : List Int} (h : ROk w base r S items) (f : Fr (fun _ => False) w w') : ROk w' base r S items := h.fr f fun _ h => h.elim
/-- The steps as they came in. -/
def Steps (w : World) (p : Option Addr) (st : List (Int × List Int)) : Prop :=
  ∀ i q, st[i]? = some q → ∃ a ip ic, p = some a ∧ w.cell? ((a.add (i * 2)).add 0) = some (.int .i64 q.1) ∧ w.cell? ((a.add (i * 2)).add 1) = some (.slice ip q.2.length ic) ∧ Ints w ip q.2 ∧ ∀ b, bl ip b → b < w.heap.size
theorem Steps.fr0 {w w' : World} {p : Option Addr} {st : List (Int × List Int)} (h : Steps w p st) (f : Fr (fun _ => False) w w') : Steps w' p st := fun i q hq => by
  obtain ⟨a, ip, ic, h1, h2, h3, h4, h5⟩ := h i q hq
  exact ⟨a, ip, ic, h1, by rw [f.cell (cell_lt h2) id]; exact h2, by rw [f.cell (cell_lt h3) id]; exact h3, h4.fr0 f, fun b hb => Nat.lt_of_lt_of_le (h5 b hb) f.size⟩
theorem fill28 (r : Rec) : ∀ i : TypeInfo, i.size = 4 → Instr.fill (fun j => some (j * i.size, i.size)) ((Array.range (1 * i.size)).map (z28.cells[· % z28.cells.size]!)) [(0, .agg #[.int .i64 r.n, .slice r.fp r.fl r.fc, .bool r.al, .slice r.ep r.el r.ec])] = some (rflat [r]).toArray := by
  intro i h
  rw [h]
  kernel_rfl
theorem Own.ofN {w : World} {e : TypeId} {p : Option Addr} {l c : Nat} {vs : List Value} (h : OwnN w e 1 p l c vs) : Own w e p l c vs := by
  refine ⟨by simpa using h.1, h.2.imp id ?_⟩
  rintro ⟨q, rest, h1, h2, h3, h4, h5⟩
  exact ⟨q, rest, h1, h2, by simpa using h3, h5⟩
theorem Own.toN {w : World} {e : TypeId} {p : Option Addr} {l c : Nat} {vs : List Value} (h : Own w e p l c vs) : OwnN w e 1 p l c vs := by
  refine ⟨by simpa using h.1, h.2.imp id ?_⟩
  rintro ⟨q, rest, h1, h2, h3, h4⟩
  refine ⟨q, rest, h1, h2, by simpa using h3, ?_, h4⟩
  have := h.1
  rw [List.length_append] at h3
  omega
theorem fillI1 (x : Int) : ∀ i : TypeInfo, i.size = 1 → Instr.fill (fun j => some (j * i.size, i.size)) ((Array.range (1 * i.size)).map ((Value.int .i64 0).cells[· % (Value.int .i64 0).cells.size]!)) [(0, .int .i64 x)] = some [Value.int .i64 x].toArray := by
  intro i h
  rw [h]
  kernel_rfl
theorem fillB1 (x : Bool) : ∀ i : TypeInfo, i.size = 1 → Instr.fill (fun j => some (j * i.size, i.size)) ((Array.range (1 * i.size)).map ((Value.bool false).cells[· % (Value.bool false).cells.size]!)) [(0, .bool x)] = some [Value.bool x].toArray := by
  intro i h
  rw [h]
  kernel_rfl
/-- The flattened slice, as the set keeps it. -/
def FlOk (w : World) (base0 : Nat) (fp : Option Addr) (fl fc : Nat) (S : List Int) : Prop :=
  (fp = none ∧ fl = 0 ∧ fc = 0) ∨ (fp.isNone = false ∧ ∃ xs : List Int, xs.Perm S ∧ fl = xs.length ∧ Own w 20 fp fl fc (xs.map kI) ∧ ∀ b, bl fp b → base0 ≤ b)
theorem FlOk.fr {T : Nat → Prop} {w w' : World} {base0 fl fc : Nat} {fp : Option Addr} {S : List Int} (h : FlOk w base0 fp fl fc S) (f : Fr T w w') (hT : ∀ b, T b → b < base0 ∨ ∃ t us, Blk w b t us ∧ t ≠ 20) : FlOk w' base0 fp fl fc S := by
  rcases h with h | ⟨h0, xs, h1, h2, h3, h4⟩
  · exact .inl h
  · refine .inr ⟨h0, xs, h1, h2, h3.fr f fun b hb ht => ?_, h4⟩
    have := h4 b hb
    rcases hT b ht with h | ⟨t, us, g1, g2⟩
    · omega
    · obtain ⟨vs, hv⟩ := h3.blk hb; exact g2 (g1.unique hv).1

section
variable {k : Value → W} {again : Option Addr → Option Addr → Nat → Nat → Option Addr → Nat → Nat → Int → Int → W}
/-- What is said: the list, then what exists; then it is put behind the others. -/
theorem J2_spec {w : World} {sb mb fl fc base : Nat} {fp : Option Addr} {S items : List Int} {n14 n28 : Nat} {ol oc : Nat} {outp : Option Addr} {cells : List Value} {opn : Int} {ip : Option Addr} {ic : Nat} {al : Bool} {sp : Option Addr} {sl sc : Nat} {x y : Int}
    (hS : SetAt w sb mb S fp fl fc) (hF : FlOk w base fp fl fc S) (hlen : S.length < 10000) (hil : items.length < 10000) (b14 : Blk w n14 32 [.int .i64 opn, .slice ip items.length ic]) (hI : Ints w ip items) (b28 : Blk w n28 28 [.int .i64 (S.length : Nat), .slice none 0 0, .bool al, .slice none 0 0])
    (hsb : sb < base) (hmb : mb < base) (h14 : base ≤ n14) (h28 : base ≤ n28) (hne : n14 ≠ n28) (hb : base ≤ w.heap.size) (hipb : ∀ b, bl ip b → b ≠ sb ∧ b ≠ mb ∧ b ≠ n28) (ho : OwnN w 28 4 outp ol oc cells) (hob : ∀ b, bl outp b → base ≤ b ∧ b ≠ n28) (hol : ol < 10000)
    (hk : ∀ r fp' fl' fc' p' c' w', ROk w' base r S items → SetAt w' sb mb S fp' fl' fc' → FlOk w' base fp' fl' fc' S → OwnN w' 28 4 p' (ol + 1) c' (cells ++ rflat [r]) → (∀ b, bl p' b → base ≤ b) → Fr (fun b => b = sb ∨ b = n28 ∨ bl outp b) w w' → again (some ⟨sb, 0, none⟩) p' (ol + 1) c' sp sl sc x (addI .i64 y 1) w') :
    F19_J2 k again (some ⟨sb, 0, none⟩) outp ol oc ⟨n14, 0, none⟩ ⟨n28, 0, none⟩ sp sl sc x y w := by
  unfold F19_J2
  -- the list
  have flat : ∀ (g : Option Addr → Nat → Nat → W), (∀ (xs : List Int) q m c w', xs.Perm S → m = xs.length → q.isNone = false → Own w' 20 q m c (xs.map kI) → (∀ b, bl q b → base ≤ b) → SetAt w' sb mb S q m c → Fr (fun b => b = sb) w w' → g q m c w') →
      CallT Try.prog 37 [.pointer (some ⟨sb, 0, none⟩)] (.s (.one .slice)) g w := by
    intro g hg
    rcases hF with ⟨rfl, rfl, rfl⟩ | ⟨h0, xs, h1, h2, h3, h4⟩
    · exact F37_call (F37_new hS (by omega) fun xs q m c w' a1 a2 a3 a4 a5 a6 a7 => back_slice (hg xs q m c w' a1 a2 a3 a4 (fun b h => Nat.le_trans hb (a5 b h)) a6 a7))
    · exact F37_call (F37_old hS h0 (back_slice (hg xs fp fl fc w h1 h2 h0 h3 h4 hS (Fr.refl _ _))))
  refine flat _ fun xs q m c w1 hp hm hq o1 hqb s1 f1 => ?_
  refine F37_call (F37_old s1 hq (back_slice ?_))
  have hnm : mb ≠ sb := fun e => hS.items.not_blk hS.head e
  have b14' := b14.fr f1 (by omega)
  have b28' := b28.fr f1 (by omega)
  have hI' := hI.fr f1 fun b h => (hipb b h).1
  have ho1 := ho.fr f1 fun b h e => by have := (hob b h).1; have : b = sb := e; omega
  have hs1 := f1.size
  have hqn : ∀ b, bl q b → b ≠ n28 ∧ b ≠ n14 := fun b h => by
    obtain ⟨us, hu⟩ := o1.blk h
    exact ⟨fun e => by subst e; exact absurd (hu.unique b28').1 (by decide), fun e => by subst e; exact absurd (hu.unique b14').1 (by decide)⟩
  have hxl : xs.length = S.length := hp.length_eq
  subst hm
  obtain ⟨i3, t1, t2, t3, t4, t5⟩ := inf3
  refine F19_L2_rule (fun st op' ol' oc' sa sd sp' sl' sc' x' y' fp' fl' fc' x46 x47 w' => st = some ⟨sb, 0, none⟩ ∧ op' = outp ∧ ol' = ol ∧ oc' = oc ∧ sa = ⟨n14, 0, none⟩ ∧ sd = ⟨n28, 0, none⟩ ∧ sp' = sp ∧ sl' = sl ∧ sc' = sc ∧ x' = x ∧ y' = y ∧ fp' = q ∧ fl' = xs.length ∧ x46 = (xs.length : Nat) ∧
      ∃ (i : Nat) (p : Option Addr) (c : Nat), x47 = i ∧ i ≤ xs.length ∧ Blk w' n28 28 [.int .i64 (S.length : Nat), .slice p i c, .bool al, .slice none 0 0] ∧ Own w' 3 p i c (ints (xs.take i)) ∧ (∀ b, bl p b → w1.heap.size ≤ b) ∧ Fr (fun b => b = n28) w1 w')
    (fun _ _ _ _ _ _ _ _ _ _ _ _ _ _ x46 x47 _ => (x46 - x47).toNat) ?_ ⟨rfl, rfl, rfl, rfl, rfl, rfl, rfl, rfl, rfl, rfl, rfl, rfl, rfl, rfl, 0, none, 0, rfl, Nat.zero_le _, b28', Own.nil _ _, fun b ⟨a, h, _⟩ => (by cases h), Fr.refl _ _⟩
  rintro st op' ol' oc' sa sd sp' sl' sc' x' y' fp' fl' fc' x46 x47 w2 ⟨e1, e2, e3, e4, rfl, rfl, e7, e8, e9, e10, e11, e12, e13, rfl, i, p, c2, rfl, hi, b2, o2, hp2, f2⟩
  obtain rfl := e1.symm; obtain rfl := e2.symm; obtain rfl := e3.symm; obtain rfl := e4.symm; obtain rfl := e7.symm; obtain rfl := e8.symm; obtain rfl := e9.symm; obtain rfl := e10.symm; obtain rfl := e11.symm; obtain rfl := e12.symm; obtain rfl := e13.symm
  unfold F19_L2
  by_cases hlt : i < xs.length
  · rw [decide_eq_true (by omega)]
    have hget : xs[i]? = some (xs[i]'(by omega)) := List.getElem?_eq_getElem _
    generalize xs[i]'(by omega) = v at hget
    obtain ⟨a, rfl, hc⟩ := (o1.fr f2 fun b h => (hqn b h).1).anys i v hget
    simp only [BIf_true, NN_mk, Int.toNat_natCast]
    refine ⟨by omega, LoadT_any.2 ⟨_, hc, ?_⟩⟩
    refine drw_intro fun w3 f3 z3 => ?_
    have b3 := b2.fr f3 id
    refine load_slice b3 rfl ?_
    refine ⟨(v, ()), rfl, ?_⟩
    show RawT _ _ _ _ w3
    have o3 := o2.fr f3 fun _ _ h => h
    have f13 := f2.trans f3 fun _ h => h.elim
    have hpn : ∀ b, bl p b → b ≠ n28 := fun b h e => by have := hp2 b h; have := b28'.lt; omega
    -- the literal, the check, the append
    have hbuild : ∀ g : Option Addr → Nat → Nat → W, (∀ w', Fr (fun _ => False) w3 w' → Blk w' w3.heap.size 3 [.int .i64 v] → w'.heap.size = w3.heap.size + 1 → g (some ⟨w3.heap.size, 0, none⟩) 1 1 w') → RawT Try.prog (Instr.buildSlice 24 1 [(0, .int .i64 v)].toArray) (.s (.one .slice)) g w3 := by
      intro g hg
      exact build_intro (z := .int .i64 0) und24 t1 t2 (by omega) (by omega) (fillI1 v i3 t3) hg
    refine hbuild _ fun w4 f4 b4 z4 => ?_
    have b34 := b3.fr f4 id
    refine ⟨by rw [show ((⟨n28, 0, none⟩ : Addr).add 1) = ⟨n28, 1, none⟩ from rfl, b34.cell]; rfl, ?_⟩
    have o4 := o3.fr f4 fun _ _ h => h
    refine append_own (P := Try.prog) und24 t1 t2 t3 (by decide) rfl (by omega) o4.toN (news := [.int .i64 v]) (m := 1) rfl ?_ (by simp [Value.oneCell']) (by omega) fun p5 c5 w5 f5 o5 hp5 => ?_
    · intro j u hj
      rw [add_mk, Nat.zero_add, b4.cell]; exact hj
    have o5 := Own.ofN o5
    have b5 := b34.fr f5 fun e => hpn n28 e rfl
    refine store_intro (i := 1) b5 (by simp) rfl fun w6 b6 f6 z6 => ?_
    have hp5' : ∀ b, bl p5 b → w1.heap.size ≤ b := fun b hb => by
      rcases hp5 b hb with h | h
      · exact hp2 b h
      · have := f13.size; have := f4.size; omega
    have o6 := o5.fr f6 fun b hb e => by have := hp5' b hb; have : b = n28 := e; have := b28'.lt; omega
    rw [add_one (by omega)]
    refine ⟨⟨(by trivial), (by trivial), (by trivial), (by trivial), (by trivial), (by trivial), (by trivial), (by trivial), (by trivial), (by trivial), (by trivial), (by trivial), (by trivial), (by trivial), i + 1, p5, c5, rfl, by omega, b6, ?_, hp5', ?_⟩, by omega⟩
    · rw [take_snoc hget, ints_append]; exact o6
    · exact ((f13.trans f4 fun _ h => h.elim).trans f5 fun b hb => .inr (hp2 b hb)).trans f6 fun b e => .inl e
  have hix : i = xs.length := by omega
  subst hix
  rw [List.take_length] at o2
  rw [decide_eq_false (by omega)]
  simp only [BIf_false]
  have b142 := b14'.fr f2 hne
  refine load_slice (i := 1) b142 rfl ?_
  have hI2 := hI'.fr f2 fun b h => (hipb b h).2.2
  have s2 := s1.fr f2 (by omega) (by omega)
  have ho2 := ho1.fr f2 fun b h e => (hob b h).2 e
  have o12 := o1.fr f2 fun b h => (hqn b h).1
  have hpn : ∀ b, bl p b → b ≠ n28 := fun b h e => by have := hp2 b h; have := b28'.lt; omega
  obtain ⟨i4, q1, q2, q3, q4⟩ := inf4
  -- what exists
  refine F19_L3_rule (fun st op' ol' oc' sd sp' sl' sc' x' y' ip' il' ic' x63 x64 w' => st = some ⟨sb, 0, none⟩ ∧ op' = outp ∧ ol' = ol ∧ oc' = oc ∧ sd = ⟨n28, 0, none⟩ ∧ sp' = sp ∧ sl' = sl ∧ sc' = sc ∧ x' = x ∧ y' = y ∧ ip' = ip ∧ il' = items.length ∧ x63 = (items.length : Nat) ∧
      ∃ (i : Nat) (ep : Option Addr) (ec : Nat), x64 = i ∧ i ≤ items.length ∧ Blk w' n28 28 [.int .i64 (S.length : Nat), .slice p xs.length c2, .bool al, .slice ep i ec] ∧ Own w' 4 ep i ec (bools ((items.take i).map fun x => decide (x ∈ S))) ∧ (∀ b, bl ep b → w2.heap.size ≤ b) ∧ Fr (fun b => b = n28) w2 w')
    (fun _ _ _ _ _ _ _ _ _ _ _ _ _ x63 x64 _ => (x63 - x64).toNat) ?_ ⟨rfl, rfl, rfl, rfl, rfl, rfl, rfl, rfl, rfl, rfl, rfl, rfl, rfl, 0, none, 0, rfl, Nat.zero_le _, b2, Own.nil _ _, fun b ⟨a, h, _⟩ => (by cases h), Fr.refl _ _⟩
  rintro st op' ol' oc' sd sp' sl' sc' x' y' ip' il' ic' x63 x64 w3 ⟨e1, e2, e3, e4, rfl, e7, e8, e9, e10, e11, e12, e13, rfl, i, ep, ec, rfl, hi, b3, o3, hp3, f3⟩
  obtain rfl := e1.symm; obtain rfl := e2.symm; obtain rfl := e3.symm; obtain rfl := e4.symm; obtain rfl := e7.symm; obtain rfl := e8.symm; obtain rfl := e9.symm; obtain rfl := e10.symm; obtain rfl := e11.symm; obtain rfl := e12.symm; obtain rfl := e13.symm
  unfold F19_L3
  have hen : ∀ b, bl ep b → b ≠ n28 := fun b h e => by have := hp3 b h; have := b2.lt; omega
  by_cases hlt : i < items.length
  · rw [decide_eq_true (by omega)]
    have hget : items[i]? = some (items[i]'(by omega)) := List.getElem?_eq_getElem _
    generalize items[i]'(by omega) = v at hget
    obtain ⟨a, rfl, hc⟩ := (hI2.fr f3 fun b h => (hipb b h).2.2) i v hget
    simp only [BIf_true, NN_mk, Int.toNat_natCast]
    refine ⟨by omega, LoadT_int.2 ⟨_, hc, ?_⟩⟩
    refine drw_intro fun w4 f4 z4 => ?_
    have b4 := b3.fr f4 id
    refine load_slice (i := 3) b4 rfl ?_
    have s4 := (s2.fr f3 (by omega) (by omega)).fr0 f4
    refine F38_call (F38_spec (x := v) s4 fun w5 f5 => back_bool ?_)
    have b5 := b4.fr f5 id
    have chk : ∀ {w'}, Blk w' n28 28 [.int .i64 (S.length : Nat), .slice p xs.length c2, .bool al, .slice ep i ec] → w'.cell? ((⟨n28, 0, none⟩ : Addr).add 3) = some (.slice ep i ec) := fun h => by rw [show ((⟨n28, 0, none⟩ : Addr).add 3) = ⟨n28, 3, none⟩ from rfl, h.cell]; rfl
    refine ⟨chk b5, ?_⟩
    refine build_intro (z := .bool false) und26 q1 q2 (by omega) (by omega) (fillB1 (decide (v ∈ S)) i4 q3) fun w6 f6 b6 z6 => ?_
    have b56 := b5.fr f6 id
    refine ⟨chk b56, ?_⟩
    have f36 := (f4.trans f5 fun _ h => h.elim).trans f6 fun _ h => h.elim
    have o6 := o3.fr f36 fun _ _ h => h
    refine append_own (P := Try.prog) und26 q1 q2 q3 (by decide) rfl (by omega) o6.toN (news := [.bool (decide (v ∈ S))]) (m := 1) rfl ?_ (by simp [Value.oneCell']) (by omega) fun p7 c7 w7 f7 o7 hp7 => ?_
    · intro j u hj
      rw [add_mk, Nat.zero_add, b6.cell]; exact hj
    have o7 := Own.ofN o7
    have b7 := b56.fr f7 fun e => hen n28 e rfl
    refine store_intro (i := 3) b7 (by simp) rfl fun w8 b8 f8 z8 => ?_
    have hp7' : ∀ b, bl p7 b → w2.heap.size ≤ b := fun b hb => by
      rcases hp7 b hb with h | h
      · exact hp3 b h
      · have := f3.size; have := f36.size; omega
    have o8 := o7.fr f8 fun b hb e => by have := hp7' b hb; have : b = n28 := e; have := b2.lt; omega
    rw [add_one (by omega)]
    refine ⟨⟨(by trivial), (by trivial), (by trivial), (by trivial), (by trivial), (by trivial), (by trivial), (by trivial), (by trivial), (by trivial), (by trivial), (by trivial), (by trivial), i + 1, p7, c7, rfl, by omega, b8, ?_, hp7', ?_⟩, by omega⟩
    · rw [take_snoc hget, List.map_append, bools_append]; exact o8
    · exact ((f3.trans f36 fun _ h => h.elim).trans f7 fun b hb => .inr (hp3 b hb)).trans f8 fun b e => .inl e
  have hix : i = items.length := by omega
  subst hix
  rw [List.take_length] at o3
  rw [decide_eq_false (by omega)]
  simp only [BIf_false]
  refine load_int (i := 0) b3 rfl ?_
  refine load_slice (i := 1) b3 rfl ?_
  refine load_bool (i := 2) b3 rfl ?_
  refine load_slice (i := 3) b3 rfl ?_
  obtain ⟨i28, r1, r2, r3, r4⟩ := inf28
  refine build_intro (z := z28) und56 r1 r2 (by omega) (by omega) (fill28 ⟨(S.length : Nat), p, xs.length, c2, al, ep, items.length, ec⟩ i28 r3) fun w4 f4 b4 z4 => ?_
  have ho4 := (ho2.fr f3 fun b h e => (hob b h).2 e).fr f4 fun _ _ h => h
  refine append_own (P := Try.prog) und56 r1 r2 r3 (by decide) rfl r4 ho4 (news := rflat [⟨(S.length : Nat), p, xs.length, c2, al, ep, items.length, ec⟩]) (m := 1) (rflat_length _) ?_ (rflat_one _) (by omega) fun p5 c5 w5 f5 o5 hp5 => ?_
  · intro j u hj
    rw [add_mk, Nat.zero_add, b4.cell]; exact hj
  have tout : ∀ {w'} {cs : List Value} {c}, OwnN w' 28 4 outp ol c cs → ∀ b, bl outp b → ∃ us, Blk w' b 28 us := fun h b hb => by
    obtain ⟨a, rfl, rfl⟩ := hb
    rcases h.2 with ⟨h, _⟩ | ⟨q, rest, h, hb, _⟩
    · cases h
    · cases h; exact ⟨_, hb⟩
  have R3 : ROk w3 base ⟨(S.length : Nat), p, xs.length, c2, al, ep, items.length, ec⟩ S items :=
    ⟨rfl, ⟨xs, hp, rfl, o2.fr f3 fun b h => hpn b h⟩, o3, fun b h => by
      rcases h with h | h
      · have := hp2 b h; omega
      · have := hp3 b h; have := f2.size; omega⟩
  have R5 := (R3.fr0 f4).fr f5 fun b hb => .inr ⟨28, (tout ho4 b hb).choose, (tout ho4 b hb).choose_spec, by decide, by decide⟩
  have s5 := ((s2.fr f3 (by omega) (by omega)).fr0 f4).fr f5 (fun h => by have := (hob sb h).1; omega) (fun h => by have := (hob mb h).1; omega)
  refine hk _ q xs.length c p5 c5 w5 R5 s5 (.inr ⟨hq, xs, hp, rfl, ?_, hqb⟩) o5 ?_ ?_
  · exact ((o12.fr f3 fun b h => (hqn b h).1).fr f4 fun _ _ h => h).fr f5 fun b hb h => by
      obtain ⟨us, hu⟩ := tout ho4 b h
      obtain ⟨vs, hv⟩ := (((o12.fr f3 fun b h => (hqn b h).1).fr f4 fun _ _ h => h)).blk hb
      exact absurd (hu.unique hv).1 (by decide)
  · intro b hb
    rcases hp5 b hb with h | h
    · exact (hob b h).1
    · have := f2.size; have := f3.size; have := f4.size; omega
  · have F1 := f1.mono (S' := fun b => b = sb ∨ b = n28 ∨ bl outp b) fun b e => .inl (.inl e)
    exact (((F1.trans f2 fun b e => .inl (.inr (.inl e))).trans f3 fun b e => .inl (.inr (.inl e))).trans f4 fun _ h => h.elim).trans f5 fun b e => .inl (.inr (.inr e))
end
end Go.Proofs.Ytokejbejoegnnaa.E
