/-
  Range trees: entries, steps and answers in memory; the parts of a step.
-/
import Derived.Test.YtfokodpnoiilbaaRA
namespace Go.Proofs.Ytfokodpnoiilbaa.E
open Go
set_option linter.unusedSimpArgs false
set_option linter.unusedVariables false
set_option maxRecDepth 100000
set_option maxHeartbeats 8000000

/-- An entry by values: its place, its number. -/
@[reducible] def PD := List Int × Int
def Dtn.pl (x : Dtn) : PD := (x.pos, x.val)
def pdO (o : Option PD) : PD := o.getD ([], 0)
def DoK (t : TypeId) : Rk PD := ⟨t, 2, fun w g x => ∃ p c, g 0 = some (.slice p x.1.length c) ∧ g 1 = some (.int .i64 x.2) ∧ Sl In64K w p x.1, [2],
  fun h ⟨p, c, h0, h1, h2⟩ => ⟨p, c, by rw [← h 0 (by decide)]; exact h0, by rw [← h 1 (by decide)]; exact h1, h2⟩,
  fun f hd ⟨p, c, h0, h1, h2⟩ => ⟨p, c, h0, h1, sl_dp h2 f hd (by decide) (fun u hu => by cases hu)⟩⟩
/-- Blocks of some types turn, none of them old, and no others. -/
def FX (base : Nat) (ts : List TypeId) (w w' : World) : Prop := ∃ S, Fr S w w' ∧ Tys S w ts ∧ ∀ b, S b → base ≤ b
section
variable {base : Nat} {ts : List TypeId} {w w' : World}
theorem FX.of0 (f : Fr (fun _ => False) w w') : FX base ts w w' := ⟨_, f, fun _ _ _ h => h.elim, fun _ h => h.elim⟩
theorem FX.mono {ts' : List TypeId} (h : ∀ u ∈ ts, u ∈ ts') : FX base ts w w' → FX base ts' w w' := fun ⟨S, f, hS, g⟩ => ⟨S, f, fun b u us hb hu => h u (hS b u us hb hu), g⟩
theorem FX.trans {w1 w2 : World} : FX base ts w w1 → FX base ts w1 w2 → FX base ts w w2 := fun ⟨S, f, h, g⟩ ⟨S2, f2, h2, g2⟩ => ⟨fun y => S y ∨ S2 y, (f.mono fun y hy => .inl (.inl hy)).trans f2 fun y hy => .inl (.inr hy), fun b u us hb hB => by
  by_cases hS : S b
  · exact h b u us hS hB
  · rcases hb with hb | hb
    · exact h b u us hb hB
    · exact h2 b u us hb (hB.fr f hS), fun b hb => hb.elim (g b) (g2 b)⟩
theorem FX.new {w1 w2 : World} {S : Nat → Prop} : FX base ts w w1 → Fr S w1 w2 → (∀ b, S b → w.heap.size ≤ b) → FX base ts w w2 := fun ⟨S0, f, h, g⟩ f2 hS => ⟨S0, f.trans f2 fun y hy => .inr (hS y hy), h, g⟩
theorem FX.fr0 (f : FX base ts w w') (hb : w.heap.size ≤ base) : Fr (fun _ => False) w w' := by
  obtain ⟨S, f, hS, g⟩ := f
  exact f.mono fun b h => .inr (Nat.le_trans hb (g b h))
theorem FX.blk {b t : Nat} {us : List Value} (h : Blk w b t us) (f : FX base ts w w') (ht : t ∉ ts) : Blk w' b t us := by
  obtain ⟨S, f, hS, _⟩ := f
  exact blk_ty h f hS ht
theorem FX.sl {α : Type} {K : Rk α} {p : Option Addr} {xs : List α} (h : Sl K w p xs) (f : FX base ts w w') (hd : ∀ u ∈ ts, u ≠ K.t ∧ u ∉ K.dp) : Sl K w' p xs := by
  obtain ⟨S, f, hS, _⟩ := f
  exact h.fr f hS hd
theorem FX.slO {α : Type} {K : Rk α} {p : Option Addr} {l c : Nat} {xs : List α} (h : SlO K w p l c xs) (f : FX base ts w w') (hd : ∀ u ∈ ts, u ≠ K.t ∧ u ∉ K.dp) : SlO K w' p l c xs := by
  obtain ⟨S, f, hS, _⟩ := f
  exact h.fr f hS hd
theorem FX.own {e : TypeId} {p : Option Addr} {l c : Nat} {vs : List Value} (h : Own w e p l c vs) (f : FX base ts w w') (ht : e ∉ ts) : Own w' e p l c vs := by
  obtain ⟨S, f, hS, _⟩ := f
  refine h.fr f fun b hb hs => ?_
  obtain ⟨us, hu⟩ := h.blk hb
  exact ht (hS b e us hs hu)
theorem FX.dt {x : Dtn} (h : DtOk w x) (f : FX base ts w w') (ht : 2 ∉ ts) : DtOk w' x := by
  obtain ⟨S, f, hS, _⟩ := f
  exact h.fr f fun b u us hb hu e => ht (e ▸ hS b u us hb hu)
theorem FX.size : FX base ts w w' → w.heap.size ≤ w'.heap.size := fun ⟨S, f, h⟩ => f.size
theorem FX.tr {base' tb dm B : Nat} {L : ON (Option Dtn) dm} (h : TrR w base' tb dm B L) (f : FX base ts w w') (ht : ∀ u ∈ ts, u ≠ 224 ∧ u ≠ 188 ∧ u ≠ 221 ∧ u ≠ 2) : TrR w' base' tb dm B L := by
  obtain ⟨S, f, hS, _⟩ := f
  exact h.fr f hS ht
end
def z87 : Value := .agg #[.slice none 0 0, .int .i64 0]
theorem und46 : Try.prog.underlying 46 = some (.slice 87) := by kernel_rfl
theorem inf87 : ∃ i, Try.prog.info? 87 = some i ∧ i.zero = some z87 ∧ i.size = 2 ∧ i.bytes ≤ 4096 := ⟨_, rfl, by kernel_rfl, by kernel_rfl, Nat.le_of_ble_eq_true (by kernel_rfl)⟩
theorem fill87 (p : Option Addr) (l c : Nat) (i : Int) : ∀ i' : TypeInfo, i'.size = 2 → Instr.fill (fun j => some (j * i'.size, i'.size)) ((Array.range (1 * i'.size)).map (z87.cells[· % z87.cells.size]!)) [(0, .agg #[.slice p l c, .int .i64 i])] = some [.slice p l c, .int .i64 i].toArray := by
  intro i' h; rw [h]; kernel_rfl
theorem ta192 (p : Option Addr) (l c : Nat) (i : Int) (w : World) : (Instr.typeAssert (.iface 192 (.agg #[.slice p l c, .int .i64 i])) 153 192 true).run Try.prog w = .ok (.tuple #[.agg #[.slice p l c, .int .i64 i], .bool true]) w := by kernel_rfl
theorem ta192n (w : World) : (Instr.typeAssert .nilIface 153 192 true).run Try.prog w = .ok (.tuple #[.agg #[.slice none 0 0, .int .i64 0], .bool false]) w := by kernel_rfl
section
variable {w : World} {k : Value → W}
theorem ta_rd {o : Option Dtn} {f : Option Addr → Nat → Nat → Int → Bool → W} (hk : f (o.getD dtn0).p (o.getD dtn0).pos.length (o.getD dtn0).c (o.getD dtn0).val o.isSome w) : RawS Try.prog (Instr.typeAssert (rdE o) 153 192 true) (.tup [(.agg [.slice, (.int .i64)]), (.one .bool)]) f w := by
  cases o with
  | none => exact ⟨((none, 0, 0), 0, false, ()), ta192n w, hk⟩
  | some x => exact ⟨((x.p, x.pos.length, x.c), x.val, true, ()), ta192 _ _ _ _ w, hk⟩
theorem back_ss {f : Option Addr → Nat → Nat → Option Addr → Nat → Nat → W} {p q : Option Addr} {l c m d : Nat} (h : f p l c q m d w) : Back (.tup [(.one .slice), (.one .slice)]) f (.returned (.tuple #[.slice p l c, .slice q m d])) w := ⟨((p, l, c), (q, m, d), ()), rfl, h⟩
theorem pdO_pl (o : Option Dtn) : pdO (o.map Dtn.pl) = (o.getD dtn0).pl := by cases o <;> rfl
/-- tellDots. -/
theorem F86_spec {os : List (Option Dtn)} {p : Option Addr} {c : Nat} (O : Own w 153 p os.length c (os.map rdE)) (ok : ∀ o ∈ os, ∀ x, o = some x → DtOk w x) (hl : os.length < 1000000)
    (hk : ∀ w' p' c' q d, SlO (DoK 87) w' p' os.length c' (os.map fun o => pdO (o.map Dtn.pl)) → SlO BoK w' q os.length d (os.map Option.isSome) → (∀ b, bl p' b → w.heap.size ≤ b) → (∀ b, bl q b → w.heap.size ≤ b) → Fr (fun _ => False) w w' → k (.tuple #[.slice p' os.length c', .slice q os.length d]) w') : F86 k p os.length c w := by
  obtain ⟨i87, g1, g2, g3, g4⟩ := inf87
  unfold F86
  refine F86_L1_rule (I := fun op ol oc hp hl hc sp sl sc n i w' => sp = p ∧ sl = os.length ∧ sc = c ∧ n = ((os.length : Nat) : Int) ∧ ∃ t : Nat, i = ((t : Nat) : Int) ∧ t ≤ os.length ∧ ol = t ∧ hl = t ∧ SlO (DoK 87) w' op t oc ((os.take t).map fun o => pdO (o.map Dtn.pl)) ∧ SlO BoK w' hp t hc ((os.take t).map Option.isSome) ∧ (∀ b, bl op b → w.heap.size ≤ b) ∧ (∀ b, bl hp b → w.heap.size ≤ b) ∧ Fr (fun _ => False) w w')
    (μ := fun op ol oc hp hl hc sp sl sc n i w' => os.length - i.toNat) ?_ ⟨rfl, rfl, rfl, rfl, 0, rfl, Nat.zero_le _, rfl, rfl, SlO.nil _ _, SlO.nil _ _, (fun b ⟨_, h, _⟩ => by cases h), (fun b ⟨_, h, _⟩ => by cases h), Fr.refl _ _⟩
  rintro op ol oc hp hl' hc sp sl sc n i w1 ⟨e0, e1, e2, rfl, t, rfl, ht, e3, e4, O1, H1, hop, hhp, f1⟩
  obtain rfl := e0.symm
  obtain rfl := e2.symm
  unfold F86_L1
  rw [e1, e3, e4]
  have hz1 := f1.size
  by_cases hlt : t < os.length
  · rw [decide_eq_true (show ((t : Nat) : Int) < ((os.length : Nat) : Int) by omega), BIf_true]
    have hx : os[t]? = some os[t] := List.getElem?_eq_getElem hlt
    have hmem : os[t] ∈ os := List.getElem_mem hlt
    generalize os[t] = o at hx hmem
    have Ow := O.fr f1 fun _ _ => id
    obtain ⟨q2, rest2, hpp, hB2, _, _⟩ := Ow.get (by omega)
    rw [hpp, NN_mk, Req_iff, Int.toNat_natCast, add_mk, Nat.zero_add]
    refine ⟨by omega, load_any (v := rdE o) hB2 (by rw [List.getElem?_append_left (by simpa using hlt), List.getElem?_map, hx]; rfl) (ta_rd ?_)⟩
    have okx : Sl In64K w1 (o.getD dtn0).p (o.getD dtn0).pos := by
      cases ho : o with
      | none => exact Sl.nil _ _ _
      | some x => exact ((ok o hmem x ho).fr0 f1).1
    have hpd := pdO_pl o
    generalize o.getD dtn0 = y at okx hpd
    refine new_intro fun n w2 e2' b2 f2 z2 => ?_
    refine store_intro (i := 0) b2 (by simp) rfl fun w3 b3 f3 z3 => ?_
    refine store_intro (i := 1) b3 (by simp) rfl fun w4 b4 f4 z4 => ?_
    have b4 : Blk w4 n 192 [.slice y.p y.pos.length y.c, .int .i64 y.val] := b4
    have f14 : Fr (fun _ => False) w1 w4 := by
      have : Fr (fun b => b = n) w1 w4 := ((f2.mono (S' := fun b => b = n) fun _ h => h.elim).trans f3 fun _ h => .inl h).trans f4 fun _ h => .inl h
      exact this.mono fun b h => .inr (by have h : b = n := h; omega)
    refine load_slice (i := 0) b4 rfl (load_int (i := 1) b4 rfl ?_)
    refine build_intro und46 g1 g2 (by omega) (by omega) (fill87 y.p y.pos.length y.c _ i87 g3) fun w5 f5 b5 z5 => ?_
    have f15 := f14.trans f5 fun _ h => h.elim
    have O5 := O1.fr0 f15
    have z15 := f15.size
    refine SlO.append (K := DoK 87) und46 g1 g2 g3 (by decide) rfl g4 (by decide) O5 b5 (ys := [y.pl]) (Rows.one ⟨y.p, y.c, rfl, rfl, okx.fr0 f15⟩) rfl rfl (fun u hu => ?_) (by omega) fun p' c' w6 f6 O6 hp6 => ?_
    · simp only [List.mem_cons, List.not_mem_nil, or_false] at hu
      rcases hu with rfl | rfl <;> rfl
    have T6 : Tys (fun b => bl op b) w5 [87] := O5.ty
    have H6 := (H1.fr0 f15).fr f6 T6 (by decide)
    refine bld_bo fun n7 w7 e7 b7 f7 z7 => ?_
    have H7 := H6.fr0 f7
    refine app_bo H7 b7 (by omega) fun p8 c8 w8 f8 H8 hp8 => ?_
    have T8 : Tys (fun b => bl hp b) w7 [4] := H7.ty
    have O8 := (O6.fr0 f7).fr f8 T8 (by decide)
    rw [addI_i64 (by omega) (by omega), show ((t : Nat) : Int) + 1 = ((t + 1 : Nat) : Int) by omega]
    have z6 := f6.size
    have z7' := f7.size
    refine ⟨⟨rfl, by trivial, by trivial, by trivial, t + 1, by trivial, hlt, by trivial, by trivial, ?_, ?_, fun b hb => ?_, fun b hb => ?_, (((f1.trans f15 fun _ h => h.elim).trans f6 fun b hb => .inr (hop b hb)).trans f7 fun _ h => h.elim).trans f8 fun b hb => .inr (hhp b hb)⟩, by show os.length - ((t + 1 : Nat) : Int).toNat < os.length - ((t : Nat) : Int).toNat; omega⟩
    · rw [take_snoc hx, List.map_append, List.map_cons, List.map_nil, hpd]; exact O8
    · rw [take_snoc hx, List.map_append, List.map_cons, List.map_nil]; exact H8
    · rcases hp6 b hb with h | h
      · exact hop b h
      · omega
    · rcases hp8 b hb with h | h
      · exact hhp b h
      · omega
  · rw [decide_eq_false (show ¬ ((t : Nat) : Int) < ((os.length : Nat) : Int) by omega), BIf_false]
    have : t = os.length := by omega
    subst this
    rw [List.take_length] at O1 H1
    exact hk w1 op oc hp hc O1 H1 hop hhp f1
/-- answerDots. -/
theorem F66_spec {os : List (Option Dtn)} {p : Option Addr} {c : Nat} (O : Own w 153 p os.length c (os.map rdE)) (ok : ∀ o ∈ os, ∀ x, o = some x → DtOk w x) (hl : os.length < 1000000)
    (hk : ∀ w' p' c' q d, SlO (DoK 87) w' p' os.length c' (os.map fun o => pdO (o.map Dtn.pl)) → SlO BoK w' q os.length d (os.map Option.isSome) → Fr (fun _ => False) w w' → k (.agg #[.slice p' os.length c', .slice q os.length d, .slice none 0 0, .int .u64 0]) w') : F66 k p os.length c w := by
  unfold F66
  refine new_intro fun n2 w1 e1 b1 f1 z1 => new_intro fun n3 w2 e2 b2 f2 z2 => ?_
  have f02 := f1.trans f2 fun _ h => h.elim
  have b12 := b1.fr f2 id
  refine F86_call (F86_spec (O.fr f02 fun _ _ => id) (fun o ho x hx => (ok o ho x hx).fr0 f02) hl fun w3 p' c' q d A H hp hq f3 => back_ss ?_)
  have b13 := b12.fr f3 id
  have b23 := b2.fr f3 id
  refine store_intro (i := 0) b23 (by simp) rfl fun w4 b4 f4 z4 => ?_
  refine store_intro (i := 1) b4 (by simp) rfl fun w5 b5 f5 z5 => ?_
  have b5 : Blk w5 n3 59 [.slice p' os.length c', .slice q os.length d, .slice none 0 0, .int .u64 0] := b5
  refine load_slice (i := 0) b5 rfl (load_slice (i := 1) b5 rfl (load_slice (i := 2) b5 rfl (load_int (i := 3) b5 rfl ?_)))
  have f35 : Fr (fun b => b = n3) w3 w5 := f4.trans f5 fun _ h => .inl h
  have b15 := b13.fr f35 (fun e => by omega)
  refine store_intro (i := 0) b15 (by simp) rfl fun w6 b6 f6 z6 => ?_
  refine store_intro (i := 1) b6 (by simp) rfl fun w7 b7 f7 z7 => ?_
  refine store_intro (i := 2) b7 (by simp) rfl fun w8 b8 f8 z8 => ?_
  refine store_intro (i := 3) b8 (by simp) rfl fun w9 b9 f9 z9 => ?_
  have b9 : Blk w9 n2 59 [.slice p' os.length c', .slice q os.length d, .slice none 0 0, .int .u64 0] := b9
  refine load_slice (i := 0) b9 rfl (load_slice (i := 1) b9 rfl (load_slice (i := 2) b9 rfl (load_int (i := 3) b9 rfl ?_)))
  have f59 : Fr (fun b => b = n2) w5 w9 := ((f6.trans f7 fun _ h => .inl h).trans f8 fun _ h => .inl h).trans f9 fun _ h => .inl h
  have T35 : Tys (fun b => b = n3) w3 [59] := Tys.one b23
  have T59 : Tys (fun b => b = n2) w5 [59] := Tys.one b15
  exact hk w9 p' c' q d ((A.fr f35 T35 (by decide)).fr f59 T59 (by decide)) ((H.fr f35 T35 (by decide)).fr f59 T59 (by decide)) ((((f02.trans f3 fun _ h => h.elim).trans f35 fun b hb => .inr (by have hb : b = n3 := hb; have := f1.size; omega))).trans f59 fun b hb => .inr (by have hb : b = n2 := hb; omega))
/-- dots. -/
theorem F67_spec {xs : List PD} {p : Option Addr} {c : Nat} (h : Sl (DoK 87) w p xs) (hs : ∀ x ∈ xs, x.1.length < 1000) (hl : xs.length < 1000000) (hk : ∀ w' p' c' (ys : List Dtn), Own w' 153 p' xs.length c' (ys.map Dtn.v) → ys.map Dtn.pl = xs → (∀ y ∈ ys, DtOk w' y) → Fr (fun _ => False) w w' → k (.slice p' xs.length c') w') : F67 k p xs.length c w := by
  obtain ⟨i, g1, g2, g3, g4⟩ := inf153
  unfold F67
  refine F67_L1_rule (I := fun op ol oc sp sl sc n i w' => sp = p ∧ sl = xs.length ∧ sc = c ∧ n = ((xs.length : Nat) : Int) ∧ ∃ (t : Nat) (ys : List Dtn), i = ((t : Nat) : Int) ∧ t ≤ xs.length ∧ ol = t ∧ Own w' 153 op ol oc (ys.map Dtn.v) ∧ ys.map Dtn.pl = xs.take t ∧ (∀ y ∈ ys, DtOk w' y) ∧ (∀ b, bl op b → w.heap.size ≤ b) ∧ Fr (fun _ => False) w w')
    (μ := fun op ol oc sp sl sc n i w' => xs.length - i.toNat) ?_ ⟨rfl, rfl, rfl, rfl, 0, [], rfl, Nat.zero_le _, rfl, Own.nil _ _, rfl, fun y hy => (by cases hy), (fun b ⟨_, h, _⟩ => by cases h), Fr.refl _ _⟩
  rintro op ol oc sp sl sc n i w1 ⟨e0, e1, e2, rfl, t, ys, rfl, ht, rfl, O1, hp1, hok, hop, f1⟩
  obtain rfl := e0.symm
  obtain rfl := e2.symm
  unfold F67_L1
  rw [e1]
  have hz1 := f1.size
  by_cases hlt : ol < xs.length
  · rw [decide_eq_true (show ((ol : Nat) : Int) < ((xs.length : Nat) : Int) by omega), BIf_true]
    have hx : xs[ol]? = some xs[ol] := List.getElem?_eq_getElem hlt
    have hmem := List.getElem_mem hlt
    generalize xs[ol] = x at hx hmem
    obtain ⟨q, o, rfl, dp, dc, c0, c1, hI⟩ := (h.fr0 f1).get hx
    have oky : DtOk w1 ⟨dp, dc, x.1, x.2⟩ := ⟨hI, hs _ hmem⟩
    simp only [NN_mk, Int.toNat_natCast, add_mk]
    refine ⟨by omega, LoadT_slice.2 ⟨_, _, _, c0, LoadT_int.2 ⟨_, c1, ?_⟩⟩⟩
    refine new_intro fun n w2 e2 b2 f2 z2 => ?_
    refine store_intro (i := 0) b2 (by simp) rfl fun w3 b3 f3 z3 => ?_
    refine store_intro (i := 1) b3 (by simp) rfl fun w4 b4 f4 z4 => ?_
    have f14 : Fr (fun _ => False) w1 w4 := by
      have : Fr (fun b => b = n) w1 w4 := ((f2.mono (S' := fun b => b = n) fun _ h => h.elim).trans f3 fun _ h => .inl h).trans f4 fun _ h => .inl h
      exact this.mono fun b h => .inr (by have h : b = n := h; omega)
    have b4 : Blk w4 n 87 [.slice dp x.1.length dc, .int .i64 x.2] := b4
    refine load_slice (i := 0) b4 rfl (load_int (i := 1) b4 rfl ?_)
    have O4 := O1.fr f14 fun _ _ => id
    refine append1 und143 g1 g2 g3 rfl g4 O4 (v := Dtn.v ⟨dp, dc, x.1, x.2⟩) rfl rfl (by omega) fun p' c' w7 f7 O7 hp7 z7 => ?_
    have T7 : Tys (fun b => bl op b) w4 [153] := fun b u us hb hu => by
      obtain ⟨us', h'⟩ := O4.blk hb
      rw [(hu.unique h').1]; decide
    rw [addI_i64 (by omega) (by omega)]
    have n2 : ∀ b u us, bl op b → Blk w4 b u us → u ≠ 2 := fun b u us hb hu e => by
      have := T7 b u us hb hu
      rw [e] at this; simp at this
    have z14 := f14.size
    refine ⟨⟨by trivial, by trivial, by trivial, by trivial, ol + 1, ys ++ [⟨dp, dc, x.1, x.2⟩], by omega, hlt, rfl, ?_, ?_, fun z hz => ?_, fun b hb => ?_, (f1.trans f14 fun _ h => h.elim).trans f7 fun b hb => .inr (hop b hb)⟩, ?_⟩
    · rw [List.map_append]; exact O7
    · rw [List.map_append, hp1, take_snoc hx]; rfl
    · rcases List.mem_append.1 hz with hz | hz
      · exact ((hok z hz).fr0 f14).fr f7 n2
      · rw [List.mem_singleton] at hz
        subst hz
        exact (oky.fr0 f14).fr f7 n2
    · rcases hp7 b hb with h | h
      · exact hop b h
      · omega
    · show xs.length - (((ol : Nat) : Int) + 1).toNat < xs.length - ((ol : Nat) : Int).toNat
      omega
  · rw [decide_eq_false (show ¬ ((ol : Nat) : Int) < ((xs.length : Nat) : Int) by omega), BIf_false]
    have : ol = xs.length := by omega
    subst this
    rw [List.take_length] at hp1
    exact hk w1 op oc ys O1 hp1 hok f1
end
end Go.Proofs.Ytfokodpnoiilbaa.E
