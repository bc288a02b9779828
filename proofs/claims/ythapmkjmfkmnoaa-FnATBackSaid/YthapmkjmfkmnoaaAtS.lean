/-
  Interval trees: intervals, steps and answers in memory; the parts of a step.
-/
import Derived.Test.YthapmkjmfkmnoaaAtR
import Derived.Test.YthapmkjmfkmnoaaFnsD
import Derived.Test.YthapmkjmfkmnoaaRecA
namespace Go.Proofs.Ythapmkjmfkmnoaa.E
open Go
set_option linter.unusedSimpArgs false
set_option linter.unusedVariables false
set_option maxRecDepth 100000
set_option maxHeartbeats 8000000

structure Stp where
  op : Int
  spans : List Sp
structure Ans where
  spans : List Sp
  n : Nat
theorem sl_dp {α : Type} {K : Rk α} {w w' : World} {S : Nat → Prop} {p : Option Addr} {xs : List α} {dp : List TypeId} (h : Sl K w p xs) (f : Fr S w w') (hd : ∀ b u us, S b → Blk w b u us → u ∉ dp) (ht : K.t ∈ dp) (hs : ∀ u, u ∈ K.dp → u ∈ dp) : Sl K w' p xs := by
  rcases h with h | ⟨q, o, us, rfl, hB, hR⟩
  · exact .inl h
  · exact .inr ⟨q, o, us, rfl, hB.fr f fun hS => hd _ _ _ hS hB ht, hR.fr f fun b u us hS hb e => hd _ _ _ hS hb (hs u e)⟩
/-- An interval of three cells. -/
def SpK (t : TypeId) : Rk Sp := ⟨t, 3, fun w g x => ∃ p c q d, g 0 = some (.slice p x.lows.length c) ∧ g 1 = some (.slice q x.highs.length d) ∧ g 2 = some (.int .u64 ((x.id : Nat) : Int)) ∧ Sl IntK w p x.lows ∧ Sl IntK w q x.highs, [2],
  fun h ⟨p, c, q, d, h0, h1, h2, h3⟩ => ⟨p, c, q, d, by rw [← h 0 (by decide)]; exact h0, by rw [← h 1 (by decide)]; exact h1, by rw [← h 2 (by decide)]; exact h2, h3⟩,
  fun f hd ⟨p, c, q, d, h0, h1, h2, h3, h4⟩ => ⟨p, c, q, d, h0, h1, h2, sl_dp h3 f hd (by decide) (fun u hu => by cases hu), sl_dp h4 f hd (by decide) (fun u hu => by cases hu)⟩⟩
def StK : Rk Stp := ⟨38, 2, fun w g s => ∃ p c, g 0 = some (.int .i64 s.op) ∧ g 1 = some (.slice p s.spans.length c) ∧ Sl (SpK 30) w p s.spans, [30, 2],
  fun h ⟨p, c, h0, h1, h2⟩ => ⟨p, c, by rw [← h 0 (by decide)]; exact h0, by rw [← h 1 (by decide)]; exact h1, h2⟩,
  fun f hd ⟨p, c, h0, h1, h2⟩ => ⟨p, c, h0, h1, sl_dp h2 f hd (by simp [SpK]) (fun u hu => by simp [SpK] at hu; simp [hu])⟩⟩
def AnK : Rk Ans := ⟨41, 2, fun w g s => ∃ p c, g 0 = some (.slice p s.spans.length c) ∧ g 1 = some (.int .u64 ((s.n : Nat) : Int)) ∧ Sl (SpK 30) w p s.spans, [30, 2],
  fun h ⟨p, c, h0, h1, h2⟩ => ⟨p, c, by rw [← h 0 (by decide)]; exact h0, by rw [← h 1 (by decide)]; exact h1, h2⟩,
  fun f hd ⟨p, c, h0, h1, h2⟩ => ⟨p, c, h0, h1, sl_dp h2 f hd (by simp [SpK]) (fun u hu => by simp [SpK] at hu; simp [hu])⟩⟩
def z30 : Value := .agg #[.slice none 0 0, .slice none 0 0, .int .u64 0]
theorem und34 : Try.prog.underlying 34 = some (.slice 30) := by kernel_rfl
theorem inf30 : ∃ i, Try.prog.info? 30 = some i ∧ i.zero = some z30 ∧ i.size = 3 ∧ i.bytes ≤ 4096 := ⟨_, rfl, by kernel_rfl, by kernel_rfl, Nat.le_of_ble_eq_true (by kernel_rfl)⟩
theorem fill30 (p : Option Addr) (l c : Nat) (q : Option Addr) (m d : Nat) (i : Int) : ∀ i' : TypeInfo, i'.size = 3 → Instr.fill (fun j => some (j * i'.size, i'.size)) ((Array.range (1 * i'.size)).map (z30.cells[· % z30.cells.size]!)) [(0, .agg #[.slice p l c, .slice q m d, .int .u64 i])] = some [.slice p l c, .slice q m d, .int .u64 i].toArray := by
  intro i' h; rw [h]; kernel_rfl
theorem und62 : Try.prog.underlying 62 = some (.slice 57) := by kernel_rfl
theorem und35 : Try.prog.underlying 35 = some (.slice 41) := by kernel_rfl
def z41 : Value := .agg #[.slice none 0 0, .int .u64 0]
theorem inf41 : ∃ i, Try.prog.info? 41 = some i ∧ i.zero = some z41 ∧ i.size = 2 ∧ i.bytes ≤ 4096 := ⟨_, rfl, by kernel_rfl, by kernel_rfl, Nat.le_of_ble_eq_true (by kernel_rfl)⟩
theorem fill41 (p : Option Addr) (l c : Nat) (i : Int) : ∀ i' : TypeInfo, i'.size = 2 → Instr.fill (fun j => some (j * i'.size, i'.size)) ((Array.range (1 * i'.size)).map (z41.cells[· % z41.cells.size]!)) [(0, .agg #[.slice p l c, .int .u64 i])] = some [.slice p l c, .int .u64 i].toArray := by
  intro i' h; rw [h]; kernel_rfl
theorem ent15 : ∀ args w, (callFunc 15 args).run Try.prog w = .ok (.enter 15 args) w := enters_of Try.func15 (by kernel_rfl) rfl
theorem m_add (p a : Option Addr) (l c : Nat) (w : World) : (callMethod (.iface 54 (.pointer p)) "Add" [.slice a l c].toArray).run Try.prog w = .ok (.enter 34 #[.pointer p, .slice a l c]) w := by kernel_rfl
theorem m_del (p a : Option Addr) (l c : Nat) (w : World) : (callMethod (.iface 54 (.pointer p)) "Delete" [.slice a l c].toArray).run Try.prog w = .ok (.enter 35 #[.pointer p, .slice a l c]) w := by kernel_rfl
theorem m_len (p : Option Addr) (w : World) : (callMethod (.iface 54 (.pointer p)) "Len" [].toArray).run Try.prog w = .ok (.enter 36 #[.pointer p]) w := by kernel_rfl
theorem m_que (p : Option Addr) (v : Value) (w : World) : (callMethod (.iface 54 (.pointer p)) "Query" [v].toArray).run Try.prog w = .ok (.enter 37 #[.pointer p, v]) w := by kernel_rfl
section
variable {w : World} {k : Value → W}
theorem mo_add {p : Option Addr} {x : W} (h : x w) : MethOk Try.prog (.func (.method "Add") #[.iface 54 (.pointer p)] #[]) x w := ⟨fun w' => by kernel_rfl, h⟩
theorem mo_del {p : Option Addr} {x : W} (h : x w) : MethOk Try.prog (.func (.method "Delete") #[.iface 54 (.pointer p)] #[]) x w := ⟨fun w' => by kernel_rfl, h⟩
theorem mo_que {p : Option Addr} {x : W} (h : x w) : MethOk Try.prog (.func (.method "Query") #[.iface 54 (.pointer p)] #[]) x w := ⟨fun w' => by kernel_rfl, h⟩
/-- An interval in memory. -/
theorem spn_of {g : Nat → Option Value} {t : TypeId} {x : Sp} (h : (SpK t).P w g x) (h1 : x.lows.length < 1000) (h2 : x.highs.length < 1000) : ∃ y : Spn, y.pl = x ∧ SpOk w y ∧ g 0 = some (.slice y.p y.lows.length y.c) ∧ g 1 = some (.slice y.q y.highs.length y.d) ∧ g 2 = some (.int .u64 ((y.id : Nat) : Int)) := by
  obtain ⟨p, c, q, d, g0, g1, g2, s1, s2⟩ := h
  exact ⟨⟨p, c, q, d, x.lows, x.highs, x.id⟩, rfl, ⟨s1, s2, h1, h2⟩, g0, g1, g2⟩
theorem sp_of {g : Nat → Option Value} {t : TypeId} {y : Spn} (h : SpOk w y) (g0 : g 0 = some (.slice y.p y.lows.length y.c)) (g1 : g 1 = some (.slice y.q y.highs.length y.d)) (g2 : g 2 = some (.int .u64 ((y.id : Nat) : Int))) : (SpK t).P w g y.pl :=
  ⟨y.p, y.c, y.q, y.d, g0, g1, g2, h.1, h.2.1⟩
/-- An interval's ends are short. -/
def Shrt (x : Sp) : Prop := x.lows.length < 1000 ∧ x.highs.length < 1000
/-- spans. -/
theorem F16_spec {xs : List Sp} {p : Option Addr} {c : Nat} (h : Sl (SpK 30) w p xs) (hs : ∀ x ∈ xs, Shrt x) (hl : xs.length < 1000000) (hk : ∀ w' p' c' (ys : List Spn), Own w' 57 p' xs.length c' (ys.map Spn.v) → ys.map Spn.pl = xs → (∀ y ∈ ys, SpOk w' y) → Fr (fun _ => False) w w' → k (.slice p' xs.length c') w') : F16 k p xs.length c w := by
  obtain ⟨i57, g1, g2, g3, g4⟩ := inf57
  unfold F16
  refine F16_L1_rule (I := fun op ol oc sp sl sc n i w' => sp = p ∧ sl = xs.length ∧ sc = c ∧ n = ((xs.length : Nat) : Int) ∧ ∃ (t : Nat) (ys : List Spn), i = ((t : Nat) : Int) ∧ t ≤ xs.length ∧ ol = t ∧ Own w' 57 op ol oc (ys.map Spn.v) ∧ ys.map Spn.pl = xs.take t ∧ (∀ y ∈ ys, SpOk w' y) ∧ (∀ b, bl op b → w.heap.size ≤ b) ∧ Fr (fun _ => False) w w')
    (μ := fun op ol oc sp sl sc n i w' => xs.length - i.toNat) ?_ ⟨rfl, rfl, rfl, rfl, 0, [], rfl, Nat.zero_le _, rfl, Own.nil _ _, rfl, fun y hy => (by cases hy), (fun b ⟨_, h, _⟩ => by cases h), Fr.refl _ _⟩
  rintro op ol oc sp sl sc n i w1 ⟨e0, e1, e2, rfl, t, ys, rfl, ht, rfl, O1, hp1, hok, hop, f1⟩
  obtain rfl := e0.symm
  obtain rfl := e2.symm
  unfold F16_L1
  rw [e1]
  have hz1 := f1.size
  by_cases hlt : ol < xs.length
  · rw [decide_eq_true (show ((ol : Nat) : Int) < ((xs.length : Nat) : Int) by omega), BIf_true]
    have hx : xs[ol]? = some xs[ol] := List.getElem?_eq_getElem hlt
    have hmem := List.getElem_mem hlt
    generalize xs[ol] = x at hx hmem
    obtain ⟨q, o, rfl, hP⟩ := (h.fr0 f1).get hx
    obtain ⟨y, rfl, oky, c0, c1, c2⟩ := spn_of hP (hs _ hmem).1 (hs _ hmem).2
    simp only [NN_mk, Int.toNat_natCast, add_mk]
    refine ⟨by omega, LoadT_slice.2 ⟨_, _, _, c0, LoadT_slice.2 ⟨_, _, _, c1, LoadT_int.2 ⟨_, c2, ?_⟩⟩⟩⟩
    refine new_intro fun n w2 e2 b2 f2 z2 => ?_
    refine store_intro (i := 0) b2 (by simp) rfl fun w3 b3 f3 z3 => ?_
    refine store_intro (i := 1) b3 (by simp) rfl fun w4 b4 f4 z4 => ?_
    refine store_intro (i := 2) b4 (by simp) rfl fun w5 b5 f5 z5 => ?_
    have f15 : Fr (fun _ => False) w1 w5 := by
      have : Fr (fun b => b = n) w1 w5 := ((f2.mono (S' := fun b => b = n) fun _ h => h.elim).trans f3 fun _ h => .inl h).trans f4 (fun _ h => .inl h) |>.trans f5 fun _ h => .inl h
      exact this.mono fun b h => .inr (by have h : b = n := h; omega)
    have b5 : Blk w5 n 30 [.slice y.p y.lows.length y.c, .slice y.q y.highs.length y.d, .int .u64 ((y.id : Nat) : Int)] := b5
    refine load_slice (i := 0) b5 rfl (load_slice (i := 1) b5 rfl (load_int (i := 2) b5 rfl ?_))
    refine build_intro und62 g1 g2 (by omega) (by omega) (fill57 59 y.a i57 g3) fun w6 f6 b6 z6 => ?_
    have O6 := (O1.fr f15 fun _ _ => id).fr f6 fun _ _ => id
    refine append_own und62 g1 g2 g3 (by decide) rfl g4 O6.n (m := 1) (news := [y.v]) rfl (fun j u hu => by rw [add_mk, Nat.zero_add, b6.cell]; exact hu) (fun u hu => by rw [List.mem_singleton] at hu; subst hu; rfl) (by omega) fun p' c' w7 f7 O7 hp7 => ?_
    have T7 : Tys (fun b => bl op b) w6 [57] := fun b u us hb hu => by
      obtain ⟨us', h'⟩ := O6.blk hb
      rw [(hu.unique h').1]; decide
    rw [addI_i64 (by omega) (by omega)]
    refine ⟨⟨by trivial, by trivial, by trivial, by trivial, ol + 1, ys ++ [y], by omega, hlt, rfl, ?_, ?_, fun z hz => ?_, fun b hb => ?_, ((f1.trans f15 fun _ h => h.elim).trans f6 fun _ h => h.elim).trans f7 fun b hb => .inr (hop b hb)⟩, ?_⟩
    · rw [List.map_append]; exact O7.one
    · rw [List.map_append, hp1, take_snoc hx]; rfl
    · have n2 : ∀ b u us, bl op b → Blk w6 b u us → u ≠ 2 := fun b u us hb hu e => by
        have := T7 b u us hb hu
        rw [e] at this; simp at this
      rcases List.mem_append.1 hz with hz | hz
      · exact (((hok z hz).fr0 f15).fr0 f6).fr f7 n2
      · rw [List.mem_singleton] at hz
        subst hz
        exact ((oky.fr0 f15).fr0 f6).fr f7 n2
    · rcases hp7 b hb with h | h
      · exact hop b h
      · have := f15.size; omega
    · show xs.length - (((ol : Nat) : Int) + 1).toNat < xs.length - ((ol : Nat) : Int).toNat
      omega
  · rw [decide_eq_false (show ¬ ((ol : Nat) : Int) < ((xs.length : Nat) : Int) by omega), BIf_false]
    have : ol = xs.length := by omega
    subst this
    rw [List.take_length] at hp1
    exact hk w1 op oc ys O1 hp1 hok f1
/-! ## Answers -/
/-- An answer that is being written. -/
def AnB (w : World) (base n : Nat) (a : Ans) : Prop := ∃ p c, Blk w n 41 [.slice p a.spans.length c, .int .u64 ((a.n : Nat) : Int)] ∧ SlO (SpK 30) w p a.spans.length c a.spans ∧ base ≤ n ∧ ∀ b, bl p b → base ≤ b
theorem AnB.frT {w w' : World} {base base' n : Nat} {ts : List TypeId} {a : Ans} (h : AnB w base n a) (f : FrT base' ts w w') (ht : ∀ u ∈ ts, u ≠ 41 ∧ u ≠ 30 ∧ u ≠ 2) : AnB w' base n a := by
  obtain ⟨p, c, hB, hI, h1, h2⟩ := h
  obtain ⟨S, fS, T, B⟩ := f
  exact ⟨p, c, blk_ty hB fS T fun hm => (ht _ hm).1 rfl, hI.fr fS T (fun u hu => ⟨(ht u hu).2.1, fun h => by simp [SpK] at h; exact (ht u hu).2.2 h⟩), h1, h2⟩
theorem AnB.fr0 {w w' : World} {base n : Nat} {a : Ans} (h : AnB w base n a) (f : Fr (fun _ => False) w w') : AnB w' base n a := h.frT (base' := 0) (ts := []) (FrT.of0 f) (fun u hu => by cases hu)
/-- keep. -/
theorem F15_spec {base n : Nat} {a : Ans} {x : Spn} (A : AnB w base n a) (hx : SpOk w x) (hl : a.spans.length < 4000000) (hk : ∀ w', AnB w' base n ⟨a.spans ++ [x.pl], a.n⟩ → FrT base [41, 30] w w' → (∀ b us, b ≠ n → Blk w b 41 us → Blk w' b 41 us) → k (.tuple #[]) w') : F15 k x.v ⟨n, 0, none⟩ w := by
  obtain ⟨p, c, hB, hI, h1, h2⟩ := A
  obtain ⟨i30, g1, g2, g3, g4⟩ := inf30
  have hn := hB.lt
  unfold F15
  refine drw_intro fun w1 f1 z1 => ?_
  have hB1 := hB.fr f1 id
  refine load_slice (i := 0) hB1 rfl ?_
  refine ⟨((x.p, x.lows.length, x.c), (x.q, x.highs.length, x.d), ((x.id : Nat) : Int), ()), rfl, ?_⟩
  refine build_intro und34 g1 g2 (by omega) (by omega) (fill30 x.p x.lows.length x.c x.q x.highs.length x.d _ i30 g3) fun w2 f2 b2 z2 => ?_
  have hB2 := hB1.fr f2 id
  refine chk (i := 0) hB2 rfl ?_
  have hI2 := (hI.fr0 f1).fr0 f2
  refine SlO.append (K := SpK 30) und34 g1 g2 g3 (by decide) rfl g4 (by simp [SpK]) hI2 b2 (ys := [x.pl]) (Rows.one (sp_of ((hx.fr0 f1).fr0 f2) rfl rfl rfl)) rfl rfl (fun u hu => ?_) (by omega) fun p' c' w3 f3 O3 hp3 => ?_
  · simp only [List.mem_cons, List.not_mem_nil, or_false] at hu
    rcases hu with rfl | rfl | rfl <;> rfl
  have T3 : Tys (fun b => bl p b) w2 [30] := hI2.ty
  have hB3 := blk_ty hB2 f3 T3 (by decide)
  refine store_intro (i := 0) hB3 (by simp) rfl fun w4 b4 f4 z4 => ?_
  have T4 : Tys (fun b => b = n) w3 [41] := Tys.one hB3
  have s1 := f1.size
  have s2 := f2.size
  refine hk w4 ⟨p', c', ?_, ?_, h1, fun b hb => ?_⟩ ⟨fun b => b = n ∨ bl p b, ?_, fun b u us hb hu => ?_, fun b hb => ?_⟩ fun b us hb hu => (blk_ty ((hu.fr f1 id).fr f2 id) f3 T3 (by decide)).fr f4 hb
  · have := b4
    simp only [List.length_append, List.length_singleton]
    exact this
  · have := O3.fr f4 T4 (by simp [SpK])
    simp only [List.length_append, List.length_singleton]
    exact this
  · rcases hp3 b hb with h | h
    · exact h2 b h
    · omega
  · exact (((f1.mono fun _ h => h.elim).trans f2 fun _ h => h.elim).trans f3 fun b hb => .inl (.inr hb)).trans f4 fun b hb => .inl (.inl hb)
  · have hu2 := (hu.fr f1 id).fr f2 id
    rcases hb with rfl | hb
    · rw [(hu2.unique hB2).1]; decide
    · have := T3 b u us hb hu2
      simp at this; rw [this]; decide
  · rcases hb with rfl | hb
    · exact h1
    · exact h2 b hb
/-! ## Queries, by values -/
def Sp.up (x : Sp) : Spn := ⟨none, 0, none, 0, x.lows, x.highs, x.id⟩
def ovP (m : Nat) (y x : Sp) : Bool := ovA x.up y.up m
theorem ovR_pl (x y : Spn) : ∀ (n i : Nat), ovR x y i n = ovR x.pl.up y.pl.up i n
  | 0, i => rfl
  | n + 1, i => by
    show (ovD x y i && ovR x y (i + 1) n) = (ovD x.pl.up y.pl.up i && ovR x.pl.up y.pl.up (i + 1) n)
    rw [ovR_pl x y n]; rfl
theorem ovA_pl (x y : Spn) (m : Nat) : ovA x y m = ovP m y.pl x.pl := by
  unfold ovP ovA
  rw [ovR_pl]; rfl
theorem got_xs {s : St} {y : Spn} {m : Nat} : ∀ {t : CT}, (∀ n ∈ t.nds, Hd (s n.b) n) → got s y m t.sh = t.xs.filter fun x => ovA x y m
  | .lf, _ => rfl
  | .nd l n r, h => by
    have h1 := got_xs (s := s) (y := y) (m := m) (t := l) fun n hn => h n (by simp [CT.nds, hn])
    have h2 := got_xs (s := s) (y := y) (m := m) (t := r) fun n hn => h n (by simp [CT.nds, hn])
    have hx := (h n (by simp [CT.nds])).1
    show got s y m l.sh ++ (at1 s y m n.b ++ got s y m r.sh) = _
    rw [h1, h2]
    have e : (CT.nd l n r).xs = l.xs ++ n.x :: r.xs := by unfold CT.xs; simp [CT.nds]
    rw [e, List.filter_append, List.filter_cons]
    unfold at1
    rw [hx]
    show _ ++ ((if ovA n.x y m = true then [n.x] else []) ++ _) = _
    split <;> simp
/-- Query, by values. -/
theorem que1 {base tb m : Nat} {M : List Sp} {y : Spn} (h : TrB w base tb m M) (hy : SpOk w y) (hm : 1 ≤ m) (hm9 : m < 100) (hl : M.length < 1000)
    (hk : ∀ w' p c (xs : List Spn), Own w' 57 p xs.length c (xs.map Spn.v) → xs.map Spn.pl = M.filter (ovP m y.pl) → (∀ x ∈ xs, SpOk w' x) → Fr (fun _ => False) w w' → k (.slice p xs.length c) w') : F37 k (ta tb) y.v w := by
  obtain ⟨D, s, T, h1, h2, h3, h4, h5⟩ := h
  cases hT : T with
  | lf =>
    subst hT
    unfold F37
    simp only [NN_mk]
    refine load_ptr (i := 0) h1.tr rfl ?_
    rw [show (oA CT.lf.blk).isNone = true from rfl, BIf_true]
    refine hk w none 0 [] (Own.nil _ _) ?_ (fun x hx => by cases hx) (Fr.refl _ _)
    rw [← h3]; rfl
  | nd l n r =>
    have hb : T.blk = some n.b := by rw [hT]; rfl
    have rt := h1.rt
    have tr := h1.tr
    rw [hb] at rt tr
    have gx := got_xs (s := s) (y := y) (m := m) rt.2
    refine F37_spec (b := n.b) (t := T.sh) tr h1.ms hy hm hm9 rt.1 ((bnd_iff rt.2).2 h2) (fun z hz => h1.hD z (by rw [← CT.sh_ino]; exact hz)) rt.has (by rw [CT.sh_ino]; unfold CT.bls; rw [List.length_map, AT.len (w := w) (tb := tb) (m := m) (D := D) (s := s) h3]; exact hl) fun w' p l c O m' sy f' => ?_
    rw [gx] at O
    have ol : l = (T.xs.filter fun x => ovA x y m).length := by have := O.1; simpa using this.symm
    subst ol
    refine hk w' p c _ O ?_ (fun x hx => ?_) f'
    · rw [← h3, List.filter_map]
      congr 1
      exact List.filter_congr fun x _ => ovA_pl x y m
    · have hx := (List.mem_filter.1 hx).1
      obtain ⟨q, hq, rfl⟩ := List.mem_map.1 hx
      exact (m' q.b (h1.hD q.b (List.mem_map.2 ⟨q, hq, rfl⟩))).2 q.x (rt.2 q hq).1
/-- Len. -/
theorem len1 {base tb m : Nat} {P : CT → Prop} {M : List Sp} (h : Tr1 w base tb m P M) (hk : k (.int .u64 ((M.length : Nat) : Int)) w) : F36 k (ta tb) w := by
  obtain ⟨D, s, T, h1, h2, h3, h4, h5⟩ := h
  unfold F36
  simp only [NN_mk, add_mk, Nat.zero_add]
  refine load_int (i := 2) h1.tr rfl ?_
  rw [AT.len (w := w) (tb := tb) (m := m) (D := D) (s := s) h3]
  exact hk
/-- New. -/
theorem F12_spec {m : Nat} (hk : ∀ w' tb, TrB w' w.heap.size tb m [] → Fr (fun _ => False) w w' → k (.iface 54 (.pointer (ta tb))) w') : F12 k ((m : Nat) : Int) w := by
  unfold F12
  refine F14_call ?_
  unfold F14
  refine F17_call ?_
  unfold F17
  refine new_intro fun n w1 e1 b1 f1 z1 => ?_
  refine store_intro (i := 0) b1 (by simp) rfl fun w2 b2 f2 z2 => ?_
  refine store_intro (i := 1) b2 (by simp) rfl fun w3 b3 f3 z3 => ?_
  refine store_intro (i := 2) b3 (by simp) rfl fun w4 b4 f4 z4 => ?_
  refine store_intro (i := 3) b4 (by simp) rfl fun w5 b5 f5 z5 => ?_
  refine store_intro (i := 4) b5 (by simp) rfl fun w6 b6 f6 z6 => ?_
  refine store_intro (i := 5) b6 (by simp) rfl fun w7 b7 f7 z7 => ?_
  refine store_intro (i := 6) b7 (by simp) rfl fun w8 b8 f8 z8 => ?_
  have b8 : Blk w8 n 71 [.nilIface, .int .i64 0, .int .i64 0, .pointer none, .pointer none, .bool false, .int .u64 0] := b8
  refine load_any (i := 0) b8 rfl (load_int (i := 1) b8 rfl (load_int (i := 2) b8 rfl (load_ptr (i := 3) b8 rfl (load_ptr (i := 4) b8 rfl (load_bool (i := 5) b8 rfl (load_int (i := 6) b8 rfl ?_))))))
  have i : ∀ x, x = n → x = n ∨ w.heap.size ≤ x := fun _ h => .inl h
  have f08 : Fr (fun _ => False) w w8 := by
    have : Fr (fun x => x = n) w w8 := (((((((f1.mono (S' := fun x => x = n) fun _ h => h.elim).trans f2 i).trans f3 i).trans f4 i).trans f5 i).trans f6 i).trans f7 i).trans f8 i
    exact this.mono fun b h => .inr (by have h : b = n := h; omega)
  refine ⟨(.nilIface, 0, 0, none, none, false, 0, ()), rfl, ?_⟩
  show New [.pointer none, .int .u64 ((m : Nat) : Int), .int .u64 0, .nilIface, .int .i64 0, .int .i64 0, .pointer none, .pointer none, .bool false, .int .u64 0] 74 (fun n9 => Back (.s (.one .ptr)) (fun p2 => k (.iface 54 (.pointer p2))) (.returned (.pointer (some ⟨n9, 0, none⟩)))) w8
  refine new_intro fun tb w9 e9 b9 f9 z9 => back_ptr ?_
  have s8 := f08.size
  refine hk w9 tb ⟨[], fun _ => ⟨none, 0, 0, none, none, false⟩, .lf, ⟨fun b hb => (by cases hb), b9, fun b hb => (by cases hb), RepT.lf, rfl, ⟨0, rfl⟩, List.nodup_nil, List.Pairwise.nil⟩, trivial, rfl, by omega, fun b hb => (by cases hb)⟩ (f08.trans f9 fun _ h => h.elim)
end
end Go.Proofs.Ythapmkjmfkmnoaa.E
