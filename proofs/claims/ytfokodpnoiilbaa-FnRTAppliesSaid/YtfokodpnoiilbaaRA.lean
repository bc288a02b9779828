/-
  Range trees: New, Len, Query, Apply, by the addresses of entries.
-/
import Derived.Test.YtfokodpnoiilbaaR9
namespace Go.Proofs.Ytfokodpnoiilbaa.E
open Go
set_option linter.unusedSimpArgs false
set_option linter.unusedVariables false
set_option maxRecDepth 100000
set_option maxHeartbeats 8000000

/-! ## Plain: not more than there are -/
section
variable {α : Type}
theorem sum_take {β : Type} (g : β → Nat) (p : β → Bool) : ∀ l : List β, ((l.takeWhile p).map g).sum ≤ (l.map g).sum
  | [] => Nat.le_refl _
  | x :: l => by
    have := sum_take g p l
    rw [List.takeWhile_cons]
    split
    · simp only [List.map_cons, List.sum_cons]; omega
    · simp
theorem sum_drop {β : Type} (g : β → Nat) : ∀ (l : List β) (n : Nat), ((l.drop n).map g).sum ≤ (l.map g).sum
  | l, 0 => by simp
  | [], n + 1 => by simp
  | x :: l, n + 1 => by
    have := sum_drop g l n
    simp only [List.drop_succ_cons, List.map_cons, List.sum_cons]; omega
theorem sum_le {β : Type} {f g : β → Nat} : ∀ {l : List β}, (∀ x ∈ l, f x ≤ g x) → (l.map f).sum ≤ (l.map g).sum
  | [], _ => Nat.le_refl _
  | x :: l, h => by
    have := h x List.mem_cons_self
    have := sum_le (l := l) fun y hy => h y (List.mem_cons_of_mem _ hy)
    simp only [List.map_cons, List.sum_cons]; omega
theorem vis_len (lo hi : Nat → Int) : ∀ (n i : Nat) (L : ON α n), (vis lo hi n i L).length ≤ szN n L
  | 0, _, _ => Nat.le_refl _
  | n + 1, i, L => by
    rw [szN_succ]
    show (List.flatMap _ _).length ≤ _
    rw [List.length_flatMap]
    refine Nat.le_trans (sum_le fun p _ => vis_len lo hi n (i + 1) p.2) ?_
    exact Nat.le_trans (sum_take _ _ _) (sum_drop _ _ _)
end
def nilN : (n : Nat) → ON (Option Dtn) n
  | 0 => none
  | n + 1 => ([] : List (Int × ON (Option Dtn) n))
theorem und184 : Try.prog.underlying 184 = some (.slice 241) := by kernel_rfl
theorem inf241 : ∃ i, Try.prog.info? 241 = some i ∧ i.zero = some (.pointer none) ∧ i.size = 1 ∧ i.bytes ≤ 4096 := ⟨_, rfl, by kernel_rfl, by kernel_rfl, Nat.le_of_ble_eq_true (by kernel_rfl)⟩
theorem ent125 : ∀ args w, (callFunc 125 args).run Try.prog w = .ok (.enter 125 args) w := enters_of Try.func125 (by kernel_rfl) rfl
theorem ent120 : ∀ args w, (callFunc 120 args).run Try.prog w = .ok (.enter 120 args) w := enters_of Try.func120 (by kernel_rfl) rfl
theorem ent69 : ∀ args w, (callFunc 69 args).run Try.prog w = .ok (.enter 69 args) w := enters_of Try.func69 (by kernel_rfl) rfl
/-- What is gathered: a variable and its list. -/
def Gat (base n : Nat) (acc : List (Option Dtn)) (w : World) : Prop := ∃ p c, Blk w n 144 [.slice p acc.length c] ∧ Own w 153 p acc.length c (acc.map rdE) ∧ (∀ o ∈ acc, ∀ x, o = some x → DtOk w x) ∧ base ≤ n ∧ ∀ b, bl p b → base ≤ b
theorem Gat.fr0 {base n : Nat} {acc : List (Option Dtn)} {w w' : World} (h : Gat base n acc w) (f : Fr (fun _ => False) w w') : Gat base n acc w' := by
  obtain ⟨p, c, h1, h2, h3, h4⟩ := h
  exact ⟨p, c, h1.fr f id, h2.fr f fun _ _ => id, fun o ho x hx => (h3 o ho x hx).fr0 f, h4⟩
section
variable {w : World} {k : Value → W} {base tb dm B : Nat} {L : ON (Option Dtn) dm}
/-- New. -/
theorem F32_spec (hd1 : 1 ≤ dm) (hdm : dm < 1000) (hbase : base ≤ w.heap.size) (hk : ∀ w' tb, TrR w' base tb dm 0 (nilN dm) → Fr (fun _ => False) w w' → k (.iface 140 (.pointer (some ⟨tb, 0, none⟩))) w') : F32 k ((dm : Nat) : Int) w := by
  obtain ⟨i, g1, g2, g3, g4⟩ := inf241
  unfold F32
  refine F65_call ?_
  unfold F65
  refine make_intro 0 dm und184 g1 g2 g3 rfl (by omega) (by omega) (by omega) fun w1 f1 o1 b1 z1 => ?_
  refine new_intro fun n w2 e2 b2 f2 z2 => back_ptr ?_
  refine hk w2 n ?_ (f1.trans f2 fun _ h => h.elim)
  obtain ⟨m, rfl⟩ : ∃ m, dm = m + 1 := ⟨dm - 1, by omega⟩
  refine ⟨[], fun _ => ⟨0, none, none, 0, []⟩, _, _, _, ⟨fun b hb => (by cases hb), b2, fun b hb => ?_, fun b b' hb hb' hne => ?_, fun b hb c hc => (by cases hc), fun b hb => (by cases hb), fun b hb => ?_⟩, ⟨.inl rfl, ?_, ?_, fun b _ => Nat.zero_le _, fun b _ => Nat.zero_le _⟩, rfl, Nat.zero_le _⟩
  · exact Own.nil _ _
  · rcases hb with rfl | hb
    · rcases hb' with rfl | hb'
      · exact absurd rfl hne
      · cases hb'
    · cases hb
  · rcases hb with rfl | hb
    · have := f1.size
      exact ⟨by omega, fun y ⟨_, h, _⟩ => by cases h⟩
    · cases hb
  · show (n :: List.flatMap _ []).Nodup
    simp
  · exact ⟨List.Pairwise.nil, fun p hp => (by cases hp)⟩
/-- Len. -/
theorem F115_spec (h : TrR w base tb dm B L) (hk : k (.int .u64 ((szN dm L : Nat) : Int)) w) : F115 k (some ⟨tb, 0, none⟩) w := by
  obtain ⟨D, s, pp, pl, pc, h1, h2, h3, h4⟩ := h
  unfold F115
  simp only [NN_mk, add_mk, Nat.zero_add]
  exact load_int (i := 1) h1.top rfl hk
/-- The list of a variable grows by an entry. -/
theorem gat_put {n : Nat} {acc : List (Option Dtn)} {o : Option Dtn} {p' : Option Addr} {c' : Nat} {w1 w2 w3 : World} {p : Option Addr} {c : Nat} (hB : Blk w1 n 144 [.slice p acc.length c]) (O : Own w1 153 p acc.length c (acc.map rdE)) (hok : ∀ o ∈ acc, ∀ x, o = some x → DtOk w1 x) (ho : ∀ x, o = some x → DtOk w1 x)
    (f2 : Fr (fun b => bl p b) w1 w2) (o2 : Own w2 153 p' (acc.length + 1) c' (acc.map rdE ++ [rdE o])) (b3 : Blk w3 n 144 [.slice p' (acc.length + 1) c']) (hb2 : Blk w2 n 144 [.slice p acc.length c]) (f3 : Fr (fun b => b = n) w2 w3) (hp' : ∀ b, bl p' b → bl p b ∨ w1.heap.size ≤ b) (hbn : base ≤ n) (hbp : ∀ b, bl p b → base ≤ b) : Gat base n (acc ++ [o]) w3 ∧ Ft base w1 w3 := by
  have hlt := hB.lt
  have T2 : Tys (fun b => bl p b) w1 [144, 153] := fun b u us hb hu => by
    obtain ⟨us', hu'⟩ := O.blk hb
    rw [(hu.unique hu').1]; decide
  have T3 : Tys (fun b => b = n) w2 [144, 153] := fun b u us hb hu => by
    have := Tys.one hb2 b u us hb hu
    simp at this; rw [this]; decide
  have ft : Ft base w1 w3 := Ft.trans ⟨_, f2, T2, hbp⟩ ⟨_, f3, T3, fun b hb => by have hb : b = n := hb; omega⟩
  have dt : ∀ x, DtOk w1 x → DtOk w3 x := fun x hx => ⟨ft.sl hx.1, hx.2⟩
  refine ⟨⟨p', c', ?_, ?_, fun o' ho' x hx => ?_, hbn, fun b hb => by rcases hp' b hb with h | h; exact hbp b h; omega⟩, ft⟩
  · simp only [List.length_append, List.length_singleton]; exact b3
  · simp only [List.length_append, List.length_singleton, List.map_append, List.map_cons, List.map_nil]
    exact o2.fr f3 fun b hb e => by
      obtain ⟨us, hu⟩ := o2.blk hb
      have e : b = n := e
      rw [e] at hu
      have := (hu.unique hb2).1
      simp at this
  · rcases List.mem_append.1 ho' with h | h
    · exact dt x (hok o' h x hx)
    · rw [List.mem_singleton] at h; rw [h] at hx; exact dt x (ho x hx)
/-- Query's callback. -/
theorem cb125 {n num N : Nat} {pp : Option Addr} {pl pc : Nat} {D : List Nat} {s : RSt} (hN : N < 4294967296) : Cb (Gat base n) (fun _ => true) (.func (.func 125) #[] #[.pointer (some ⟨n, 0, none⟩)]) N base tb num dm pp pl pc D s := by
  intro acc c w f ⟨p, c0, hB, O, hok, hbn, hbp⟩ hn h hc hk
  obtain ⟨ie, g1, g2, g3, g4⟩ := inf153
  refine NextT_enterR (callV_enter ent125) (F125_calls ?_)
  unfold F125
  refine drw_intro fun w1 f1 z1 => ?_
  have hB1 := hB.fr f1 id
  have h1 := h.fr0 f1
  simp only [NN_mk, add_mk, Nat.zero_add]
  refine load_slice (i := 0) hB1 rfl (load_any (i := 1) (h1.nodes c hc) rfl ?_)
  refine build1 und144 g1 g2 g3 rfl (rdE_cells _) fun w2 f2 b2 z2 => ?_
  have hB2 := hB1.fr f2 id
  have O2 := (O.fr f1 fun _ _ => id).fr f2 fun _ _ => id
  have h2 := h1.fr0 f2
  refine chk (i := 0) hB2 rfl ?_
  refine append_own und144 g1 g2 g3 (by decide) rfl g4 O2.n (m := 1) (news := [rdE (s c).e]) rfl (fun j u hu => by rw [add_mk, Nat.zero_add, b2.cell]; exact hu) (fun u hu => by rw [List.mem_singleton] at hu; subst hu; exact rdE_one' _) (by omega) fun p' c' w3 f3 O3 hp3 => ?_
  have T2 : Tys (fun b => bl p b) w2 [153] := fun b u us hb hu => by
    obtain ⟨us', hu'⟩ := O2.blk hb
    rw [(hu.unique hu').1]; decide
  have hB3 := blk_ty hB2 f3 T2 (by decide)
  refine chk (i := 1) (blk_ty (h2.nodes c hc) f3 T2 (by decide)) rfl ?_
  refine store_intro (i := 0) hB3 (by simp) rfl fun w4 b4 f4 z4 => ?_
  obtain ⟨ga, ft⟩ := gat_put (o := (s c).e) hB2 O2 (fun o ho x hx => ((hok o ho x hx).fr0 f1).fr0 f2) (fun x hx => h2.ok c hc x hx) f3 O3.one b4 hB3 f4 hp3 hbn hbp
  exact back_bool (hk w4 ga ((Ft.of0 (f1.trans f2 fun _ h => h.elim)).trans ft))
/-- Query. -/
theorem F116_spec {bx : Bx} (h : TrR w base tb dm B L) (hb : BxOk w bx) (hd1 : 1 ≤ dm) (hdm : dm < 1000) (hB : B < 90000)
    (hk : ∀ w' p c, Own w' 153 p (vis (plI bx.lo) (plI bx.hi) dm 1 L).length c ((vis (plI bx.lo) (plI bx.hi) dm 1 L).map rdE) → (∀ o ∈ vis (plI bx.lo) (plI bx.hi) dm 1 L, ∀ x, o = some x → DtOk w' x) → Ft base w w' → k (.slice p (vis (plI bx.lo) (plI bx.hi) dm 1 L).length c) w') : F116 k (some ⟨tb, 0, none⟩) bx.v w := by
  obtain ⟨ie, g1, g2, g3, g4⟩ := inf153
  have hvl := vis_len (plI bx.lo) (plI bx.hi) dm 1 L
  have hbase : base ≤ w.heap.size := by
    obtain ⟨D, s, pp, pl, pc, h1, _⟩ := h
    have := (h1.lo tb (.inl rfl)).1
    have := h1.top.lt; omega
  unfold F116
  refine F124_call ?_
  unfold F124
  refine make_intro 0 10 und144 g1 g2 g3 rfl (by omega) (by omega) (by omega) fun w1 f1 o1 b1 z1 => back_slice ?_
  refine new_intro fun n w2 e2 b2 f2 z2 => ?_
  refine store_intro (i := 0) b2 (by simp) rfl fun w3 b3 f3 z3 => ?_
  have b3 : Blk w3 n 144 [.slice (some ⟨w.heap.size, 0, none⟩) 0 10] := b3
  have f03 : Fr (fun _ => False) w w3 := by
    have : Fr (fun b => b = n) w w3 := ((f1.mono (S' := fun b => b = n) fun _ h => h.elim).trans f2 fun _ h => h.elim).trans f3 fun _ h => .inl h
    exact this.mono fun b h => .inr (by have h : b = n := h; omega)
  have g3' : Gat base n [] w3 := ⟨_, _, b3, (o1.fr f2 fun _ _ => id).fr f3 fun b hb e => by
    have := bl_q.1 hb
    have e : b = n := e
    omega, fun o ho => (by cases ho), by have := hbase; have := f1.size; omega, fun b hb => by have := bl_q.1 hb; have := hbase; omega⟩
  obtain ⟨D, s, pp, pl, pc, h1, h2, h3, h4⟩ := h.fr0 f03
  simp only [NN_mk]
  have hc := h1.cell (.inl rfl : tb = tb ∨ tb ∈ D) (f := fun s6p s6l s6c => CallT Go.Proofs.Try.prog 119 [.pointer (some ⟨tb, 0, none⟩), .slice s6p s6l s6c, bx.v, .int .u64 1, .func (.func 125) #[] #[.pointer (some ⟨n, 0, none⟩)]] (.s (.one .bool)) fun b7 =>
    LoadT .slice ⟨n, 0, none⟩ fun s8p s8l s8c => k (.slice s8p s8l s8c))
  have hla : la tb tb = ⟨tb, 0, none⟩ := if_pos rfl
  rw [hla] at hc
  refine hc ?_
  obtain ⟨m, rfl⟩ : ∃ m, dm = m + 1 := ⟨dm - 1, by omega⟩
  refine F119_call (F119_spec (N := 1000000) (P := Gat base n) (go := fun _ => true) (acc := []) (i := 1) rfl (by omega) m (by omega) (by omega) (fun acc w w' h f => h.fr0 f) (cb125 (by omega)) h1 (.inl rfl) h2.sr (fun b hb => by have := h2.b1 b hb; omega) (hb.fr0 f03) g3' (by rw [h3]; simp; omega) fun w4 ga f4 => back_bool ?_)
  rw [goOn_all, h3, List.nil_append] at ga
  obtain ⟨p, c, hB4, O4, hok, _⟩ := ga
  refine load_slice (i := 0) hB4 rfl ?_
  exact hk w4 p c O4 hok ((Ft.of0 f03).trans f4)
/-- Apply's callback. -/
theorem cb120 {n n4 n11 num N : Nat} {a b : Value} {c2 c3 c4 c5 c6 c7 : Value} {M : Nat} {pp : Option Addr} {pl pc : Nat} {D : List Nat} {s : RSt} (hN : N < 4294967296) : Cb (fun acc w => Gat base n acc w ∧ Blk w n4 154 [.func (.func 69) #[] #[.pointer (some ⟨n, 0, none⟩), .pointer (some ⟨n11, 0, none⟩)]] ∧ Blk w n11 49 [a, b, c2, c3, c4, c5, c6, c7, .int .i64 ((M : Nat) : Int)]) (fun l => decide (l.length ≤ M)) (.func (.func 120) #[] #[.pointer (some ⟨n4, 0, none⟩)]) N base tb num dm pp pl pc D s := by
  intro acc c w f ⟨⟨p, c0, hB, O, hok, hbn, hbp⟩, b4, b11⟩ hn h hc hk
  obtain ⟨ie, g1, g2, g3, g4⟩ := inf153
  refine NextT_enterR (callV_enter ent120) (F120_calls ?_)
  unfold F120
  refine drw_intro fun w1 f1 z1 => ?_
  have hB1 := hB.fr f1 id
  have h1 := h.fr0 f1
  simp only [NN_mk, add_mk, Nat.zero_add]
  refine load_any (i := 0) (b4.fr f1 id) rfl (load_any (i := 1) (h1.nodes c hc) rfl ?_)
  refine NextT_enterR (callV_enter ent69) (F69_calls ?_)
  unfold F69
  refine load_slice (i := 0) hB1 rfl ?_
  have O1 := O.fr f1 fun _ _ => id
  refine append1 und144 g1 g2 g3 rfl g4 O1 (v := rdE (s c).e) (rdE_one' _) (rdE_cells _) (by omega) fun p' c' w2 f2 O2 hp2 z2 => ?_
  have T2 : Tys (fun b => bl p b) w1 [153] := fun b u us hb hu => by
    obtain ⟨us', hu'⟩ := O1.blk hb
    rw [(hu.unique hu').1]; decide
  have hB2 := blk_ty hB1 f2 T2 (by decide)
  refine store_intro (i := 0) hB2 (by simp) rfl fun w3 b3 f3 z3 => ?_
  have b3 : Blk w3 n 144 [.slice p' (acc.length + 1) c'] := b3
  obtain ⟨ga, ft⟩ := gat_put (o := (s c).e) hB1 O1 (fun o ho x hx => (hok o ho x hx).fr0 f1) (fun x hx => h1.ok c hc x hx) f2 O2 b3 hB2 f3 hp2 hbn hbp
  refine load_slice (i := 0) b3 rfl ?_
  have b11' := ft.blk (b11.fr f1 id) (by decide)
  simp only [add_mk, Nat.zero_add]
  refine load_int (i := 8) b11' rfl (bind_intro (back_bool (back_bool ?_)))
  have := hk w3 ⟨ga, ft.blk (b4.fr f1 id) (by decide), b11'⟩ ((Ft.of0 f1).trans ft)
  have e : decide ((((acc.length + 1 : Nat)) : Int) ≤ ((M : Nat) : Int)) = decide ((acc ++ [(s c).e]).length ≤ M) := by
    rw [decide_eq_decide]; simp; omega
  rw [e]; exact this
/-- Apply. -/
theorem F111_spec {bx : Bx} {n n11 M : Nat} {a b c2 c3 c4 c5 c6 c7 : Value} (h : TrR w base tb dm B L) (hb : BxOk w bx) (hd1 : 1 ≤ dm) (hdm : dm < 1000) (hB : B < 90000) (hG : Gat base n [] w) (b11 : Blk w n11 49 [a, b, c2, c3, c4, c5, c6, c7, .int .i64 ((M : Nat) : Int)])
    (hk : ∀ w', Gat base n ((vis (plI bx.lo) (plI bx.hi) dm 1 L).take (M + 1)) w' → Ft base w w' → k (.tuple #[]) w') : F111 k (some ⟨tb, 0, none⟩) bx.v (.func (.func 69) #[] #[.pointer (some ⟨n, 0, none⟩), .pointer (some ⟨n11, 0, none⟩)]) w := by
  have hvl := vis_len (plI bx.lo) (plI bx.hi) dm 1 L
  unfold F111
  refine Req_iff.2 ⟨rfl, new_intro fun n4 w1 e1 b1 f1 z1 => ?_⟩
  obtain ⟨D, s, pp, pl, pc, h1, h2, h3, h4⟩ := h.fr0 f1
  simp only [NN_mk]
  have hc := h1.cell (.inl rfl : tb = tb ∨ tb ∈ D) (f := fun s6p s6l s6c => CallT Go.Proofs.Try.prog 119 [.pointer (some ⟨tb, 0, none⟩), .slice s6p s6l s6c, bx.v, .int .u64 1, .func (.func 120) #[] #[.pointer (some ⟨n4, 0, none⟩)]] (.s (.one .bool)) fun b7 =>
    k (.tuple #[]))
  have hla : la tb tb = ⟨tb, 0, none⟩ := if_pos rfl
  rw [hla] at hc
  refine hc ?_
  obtain ⟨m, rfl⟩ : ∃ m, dm = m + 1 := ⟨dm - 1, by omega⟩
  refine F119_call (F119_spec (N := 1000000) (P := fun acc w => Gat base n acc w ∧ Blk w n4 154 [.func (.func 69) #[] #[.pointer (some ⟨n, 0, none⟩), .pointer (some ⟨n11, 0, none⟩)]] ∧ Blk w n11 49 [a, b, c2, c3, c4, c5, c6, c7, .int .i64 ((M : Nat) : Int)]) (go := fun l => decide (l.length ≤ M)) (acc := []) (i := 1) rfl (by omega) m (by omega) (by omega) (fun acc w w' ⟨h1, h2, h3⟩ f => ⟨h1.fr0 f, h2.fr f id, h3.fr f id⟩) (cb120 (by omega)) h1 (.inl rfl) h2.sr (fun b hb => by have := h2.b1 b hb; omega) (hb.fr0 f1) ⟨hG.fr0 f1, b1, b11.fr f1 id⟩ (by rw [h3]; simp; omega) fun w4 ga f4 => back_bool ?_)
  have e := goOn_take M (vis (plI bx.lo) (plI bx.hi) (m + 1) 1 L) [] (Nat.zero_le _)
  rw [h3, e] at ga
  exact hk w4 ga.1 ((Ft.of0 f1).trans f4)
end
end Go.Proofs.Ytfokodpnoiilbaa.E
