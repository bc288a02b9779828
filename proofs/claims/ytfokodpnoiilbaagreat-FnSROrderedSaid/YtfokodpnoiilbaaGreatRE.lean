/-
  Range trees: lists of entries by their places, as the statements keep them; append of what can be read.
-/
import Derived.Test.YtfokodpnoiilbaaGreatRR
namespace Go.Proofs.YtfokodpnoiilbaaGreat.E
open Go
set_option linter.unusedSimpArgs false
set_option linter.unusedVariables false
set_option maxRecDepth 100000
set_option maxHeartbeats 8000000

/-! ## Plain -/
def cmpI : List Int → List Int → Int
  | [], _ => 0
  | _ :: _, [] => 0
  | x :: a, y :: b => if x < y then -1 else if x > y then 1 else cmpI a b
theorem cmpI_cons (x y : Int) (a b : List Int) : cmpI (x :: a) (y :: b) = if x < y then -1 else if x > y then 1 else cmpI a b := rfl
theorem cmpI_zero : ∀ {a b : List Int}, a.length = b.length → (cmpI a b = 0 ↔ a = b)
  | [], [], _ => ⟨fun _ => rfl, fun _ => rfl⟩
  | x :: a, y :: b, h => by
    have ih := cmpI_zero (a := a) (b := b) (by simpa using h)
    rw [cmpI_cons]
    split
    · constructor
      · intro h; omega
      · intro h; injection h with h1 h2; omega
    · split
      · constructor
        · intro h; omega
        · intro h; injection h with h1 h2; omega
      · rw [ih]
        constructor
        · intro h; rw [h]; congr 1; omega
        · intro h; injection h with h1 h2
theorem cmpI_neg : ∀ {a b : List Int}, a.length = b.length → (cmpI a b < 0 ↔ ltk a b)
  | [], [], _ => ⟨fun h => by have : (0 : Int) < 0 := h; omega, fun h => h.elim⟩
  | x :: a, y :: b, h => by
    have ih := cmpI_neg (a := a) (b := b) (by simpa using h)
    rw [cmpI_cons]
    show _ ↔ (x < y ∨ (x = y ∧ ltk a b))
    split
    · exact ⟨fun _ => .inl (by assumption), fun _ => by omega⟩
    · split
      · constructor
        · intro h; omega
        · rintro (h | ⟨h, _⟩) <;> omega
      · rw [ih]
        constructor
        · intro h; exact .inr ⟨by omega, h⟩
        · rintro (h | ⟨_, h⟩)
          · omega
          · exact h
def SrtP (n : Nat) (l : List PD) : Prop := (∀ x ∈ l, x.1.length = n) ∧ l.Pairwise fun x y => ltk x.1 y.1
theorem SrtP.cons {n : Nat} {x : PD} {l : List PD} (h : SrtP n (x :: l)) : x.1.length = n ∧ (∀ y ∈ l, ltk x.1 y.1) ∧ SrtP n l :=
  ⟨h.1 x List.mem_cons_self, (List.pairwise_cons.1 h.2).1, fun y hy => h.1 y (List.mem_cons_of_mem _ hy), (List.pairwise_cons.1 h.2).2⟩
def insP : List PD → PD → List PD
  | [], x => [x]
  | y :: l, x => if cmpI y.1 x.1 < 0 then y :: insP l x else if cmpI y.1 x.1 = 0 then x :: l else x :: y :: l
theorem insP_cons (y : PD) (l : List PD) (x : PD) : insP (y :: l) x = if cmpI y.1 x.1 < 0 then y :: insP l x else if cmpI y.1 x.1 = 0 then x :: l else x :: y :: l := rfl
theorem mem_insP {x z : PD} : ∀ {l : List PD}, z ∈ insP l x → z = x ∨ z ∈ l
  | [], h => .inl (by simpa [insP] using h)
  | y :: l, h => by
    rw [insP_cons] at h
    split at h
    · rcases List.mem_cons.1 h with h | h
      · exact .inr (h ▸ List.mem_cons_self)
      · exact (mem_insP h).imp id (List.mem_cons_of_mem _)
    · split at h
      · rcases List.mem_cons.1 h with h | h
        · exact .inl h
        · exact .inr (List.mem_cons_of_mem _ h)
      · rcases List.mem_cons.1 h with h | h
        · exact .inl h
        · exact .inr h
theorem insP_srt {n : Nat} {x : PD} (hx : x.1.length = n) : ∀ {l : List PD}, SrtP n l → SrtP n (insP l x)
  | [], _ => ⟨fun z hz => by rw [show z = x by simpa [insP] using hz]; exact hx, List.pairwise_singleton _ _⟩
  | y :: l, h => by
    obtain ⟨h1, h2, h3⟩ := h.cons
    refine ⟨fun z hz => ?_, ?_⟩
    · rcases mem_insP hz with rfl | hz
      · exact hx
      · exact h.1 z hz
    · rw [insP_cons]
      split
      · rename_i hc
        refine List.pairwise_cons.2 ⟨fun z hz => ?_, (insP_srt hx h3).2⟩
        rcases mem_insP hz with rfl | hz
        · exact (cmpI_neg (by omega)).1 hc
        · exact h2 z hz
      · split
        · rename_i hc
          have := (cmpI_zero (by omega)).1 hc
          refine List.pairwise_cons.2 ⟨fun z hz => ?_, h3.2⟩
          rw [← this]; exact h2 z hz
        · rename_i a1 a2
          have hxy : ltk x.1 y.1 := by
            rcases ltk_tri y.1 x.1 (by omega) with h | h | h
            · exact absurd ((cmpI_neg (by omega)).2 h) a1
            · exact absurd ((cmpI_zero (by omega)).2 h) a2
            · exact h
          refine List.pairwise_cons.2 ⟨fun z hz => ?_, h.2⟩
          rcases List.mem_cons.1 hz with rfl | hz
          · exact hxy
          · exact ltk_trans hxy (h2 z hz)
def fndP (k : List Int) (l : List PD) : Option PD := l.find? fun x => decide (x.1 = k)
theorem fndP_cons (k : List Int) (y : PD) (l : List PD) : fndP k (y :: l) = if y.1 = k then some y else fndP k l := by
  unfold fndP; rw [List.find?_cons]
  by_cases h : y.1 = k
  · rw [if_pos h, decide_eq_true h]
  · rw [if_neg h, decide_eq_false h]
theorem fndP_gt {n : Nat} {k : List Int} : ∀ {l : List PD}, (∀ x ∈ l, ltk k x.1) → fndP k l = none
  | [], _ => rfl
  | y :: l, h => by
    rw [fndP_cons, if_neg fun e => ltk_irrefl _ (e ▸ h y List.mem_cons_self)]
    exact fndP_gt (n := n) fun z hz => h z (List.mem_cons_of_mem _ hz)
theorem fndP_ins {n : Nat} {x : PD} {k : List Int} (hx : x.1.length = n) : ∀ {l : List PD}, SrtP n l → fndP k (insP l x) = if k = x.1 then some x else fndP k l
  | [], _ => by
    show fndP k [x] = _
    rw [fndP_cons]
    by_cases h : k = x.1
    · rw [if_pos h.symm, if_pos h]
    · rw [if_neg fun e => h e.symm, if_neg h]
  | y :: l, h => by
    obtain ⟨h1, h2, h3⟩ := h.cons
    rw [insP_cons]
    split
    · rename_i hc
      rw [fndP_cons, fndP_ins hx h3, fndP_cons]
      by_cases hy : y.1 = k
      · rw [if_pos hy, if_pos hy, if_neg]
        intro e
        have := (cmpI_neg (by omega)).1 hc
        rw [hy, e] at this
        exact ltk_irrefl _ this
      · rw [if_neg hy, if_neg hy]
    · split
      · rename_i hc
        have e0 := (cmpI_zero (by omega)).1 hc
        rw [fndP_cons, fndP_cons]
        by_cases hk : k = x.1
        · rw [if_pos hk.symm, if_pos hk]
        · rw [if_neg fun e => hk e.symm, if_neg hk, if_neg fun e => hk (by rw [← e, e0])]
      · rw [fndP_cons]
        by_cases hk : k = x.1
        · rw [if_pos hk.symm, if_pos hk]
        · rw [if_neg fun e => hk e.symm, if_neg hk]
theorem insP_len {n : Nat} {x : PD} (hx : x.1.length = n) : ∀ {l : List PD}, SrtP n l → (insP l x).length = l.length + if (fndP x.1 l).isNone = true then 1 else 0
  | [], _ => rfl
  | y :: l, h => by
    obtain ⟨h1, h2, h3⟩ := h.cons
    rw [insP_cons, fndP_cons]
    split
    · rename_i hc
      have hne : y.1 ≠ x.1 := fun e => by
        have := (cmpI_neg (by omega)).1 hc
        rw [e] at this
        exact ltk_irrefl _ this
      rw [if_neg hne, List.length_cons, insP_len hx h3, List.length_cons]; omega
    · split
      · rename_i hc
        have e0 := (cmpI_zero (by omega)).1 hc
        rw [if_pos e0]; rfl
      · rename_i a1 a2
        have hxy : ltk x.1 y.1 := by
          rcases ltk_tri y.1 x.1 (by omega) with h | h | h
          · exact absurd ((cmpI_neg (by omega)).2 h) a1
          · exact absurd ((cmpI_zero (by omega)).2 h) a2
          · exact h
        rw [if_neg fun e => a2 ((cmpI_zero (by omega)).2 e), fndP_gt (n := n) fun z hz => ltk_trans hxy (h2 z hz)]
        rfl
def rtA (k : List Int) : List PD → Nat
  | [] => 0
  | y :: l => if cmpI y.1 k < 0 then rtA k l + 1 else 0
theorem rtA_cons (k : List Int) (y : PD) (l : List PD) : rtA k (y :: l) = if cmpI y.1 k < 0 then rtA k l + 1 else 0 := rfl
theorem rtA_le (k : List Int) : ∀ l : List PD, rtA k l ≤ l.length
  | [] => Nat.le_refl _
  | y :: l => by rw [rtA_cons]; split <;> simp [rtA_le k l]
def atP (k : List Int) (l : List PD) : Option PD := match l[rtA k l]? with | some y => if cmpI y.1 k = 0 then some y else none | none => none
theorem atP_lt {k : List Int} {y : PD} {l : List PD} (h : cmpI y.1 k < 0) : atP k (y :: l) = atP k l := by
  unfold atP; rw [rtA_cons, if_pos h]; rfl
theorem atP_ge {k : List Int} {y : PD} {l : List PD} (h : ¬ cmpI y.1 k < 0) : atP k (y :: l) = if cmpI y.1 k = 0 then some y else none := by
  unfold atP; rw [rtA_cons, if_neg h]; rfl
theorem atP_fnd {n : Nat} {k : List Int} (hk : k.length = n) : ∀ {l : List PD}, SrtP n l → atP k l = fndP k l
  | [], _ => rfl
  | y :: l, h => by
    obtain ⟨h1, h2, h3⟩ := h.cons
    rw [fndP_cons]
    by_cases hc : cmpI y.1 k < 0
    · rw [atP_lt hc, atP_fnd hk h3, if_neg]
      intro e
      have := (cmpI_neg (by omega)).1 hc
      rw [e] at this
      exact ltk_irrefl _ this
    · rw [atP_ge hc]
      by_cases h0 : cmpI y.1 k = 0
      · rw [if_pos h0, if_pos ((cmpI_zero (by omega)).1 h0)]
      · rw [if_neg h0, if_neg fun e => h0 ((cmpI_zero (by omega)).2 e)]
        have hxy : ltk k y.1 := by
          rcases ltk_tri y.1 k (by omega) with h | h | h
          · exact absurd ((cmpI_neg (by omega)).2 h) hc
          · exact absurd ((cmpI_zero (by omega)).2 h) h0
          · exact h
        exact (fndP_gt (n := n) fun z hz => ltk_trans hxy (h2 z hz)).symm
def dropP (k : List Int) (l : List PD) : List PD := if (atP k l).isSome = true then l.take (rtA k l) ++ l.drop (rtA k l + 1) else l
theorem dropP_lt {k : List Int} {y : PD} {l : List PD} (h : cmpI y.1 k < 0) : dropP k (y :: l) = y :: dropP k l := by
  unfold dropP; rw [atP_lt h, rtA_cons, if_pos h]; split <;> rfl
theorem dropP_len (k : List Int) (l : List PD) : (dropP k l).length ≤ l.length := by
  unfold dropP
  split
  · simp; have := rtA_le k l; omega
  · exact Nat.le_refl _
theorem drop_ins {n : Nat} {x : PD} (hx : x.1.length = n) : ∀ {l : List PD}, SrtP n l → insP l x = (dropP x.1 l).take (rtA x.1 (dropP x.1 l)) ++ x :: (dropP x.1 l).drop (rtA x.1 (dropP x.1 l))
  | [], _ => rfl
  | y :: l, h => by
    obtain ⟨h1, h2, h3⟩ := h.cons
    rw [insP_cons]
    split
    · rename_i hc
      rw [dropP_lt hc, rtA_cons, if_pos hc, drop_ins hx h3]; rfl
    · rename_i hc
      split
      · rename_i h0
        have e : dropP x.1 (y :: l) = l := by
          unfold dropP; rw [atP_ge hc, if_pos h0, rtA_cons, if_neg hc]; rfl
        have e0 : rtA x.1 l = 0 := by
          cases l with
          | nil => rfl
          | cons z l =>
            rw [rtA_cons, if_neg]
            intro hz
            have hzl : z.1.length = n := h.1 z (by simp)
            have a1 := (cmpI_neg (by omega)).1 hz
            have a2 := h2 z List.mem_cons_self
            rw [(cmpI_zero (by omega)).1 h0] at a2
            exact ltk_irrefl _ (ltk_trans a1 a2)
        rw [e, e0]; rfl
      · rename_i h0
        have e : dropP x.1 (y :: l) = y :: l := by
          unfold dropP; rw [atP_ge hc, if_neg h0]; rfl
        rw [e, rtA_cons, if_neg hc]; rfl
theorem cellF0 {w w' : World} {a : Addr} {v : Value} (h : w.cell? a = some v) (f : Fr (fun _ => False) w w') : w'.cell? a = some v := (f.cell (cell_lt h) id).trans h
/-! ## Memory: append of what can be read -/
theorem run_append_zero {P : Program} (w : World) (t ty e : TypeId) (i : TypeInfo) (ht : P.underlying t = some (.slice e)) (hi : P.info? e = some i) (base a : Option Addr) (sLen sCap d : Nat) (hle : sLen ≤ sCap) :
    (Builtin.append_ #[t, t] ty #[.slice base sLen sCap, .slice a 0 d]).run P w = .ok (.slice base sLen sCap) w := by
  cases base <;> cases a <;> simp [Builtin.append_, run_underlying ht, sizeOf, typeInfo, hi, Builtin.lenOf, Builtin.firstCells, hle, storeCells, loadCells, loadCellsFrom]
theorem app_sl {α : Type} {K : Rk α} {P : Program} {w : World} {t : TypeId} {i : TypeInfo} {z : Value} {f : Option Addr → Nat → Nat → W} {ty : TypeId} {cs : Array Bool} {p q : Option Addr} {l c m d : Nat} {xs ys : List α}
    (hone : ∀ {g : Nat → Option Value} {x : α} (j : Nat), K.P w g x → j < K.sz → ∃ v, g j = some v ∧ v.oneCell' = true)
    (ht : P.underlying t = some (.slice K.t)) (hi : P.info? K.t = some i) (hz : i.zero = some z) (hs : i.size = K.sz) (hpos : 0 < K.sz) (hzc : z.cells.size = K.sz) (hb : i.bytes ≤ 4096) (hdp : K.t ∉ K.dp)
    (h : SlO K w p l c xs) (hY : Sl K w q ys) (hm : m = ys.length) (hlm : l + m < 4000000000)
    (hk : ∀ p' c' w', Fr (fun b => bl p b) w w' → SlO K w' p' (l + m) c' (xs ++ ys) → (∀ b, bl p' b → bl p b ∨ w.heap.size ≤ b) → f p' (l + m) c' w') :
    NextT P (builtin .append #[t, t] ty cs [.slice p l c, .slice q m d].toArray) (.s (.one .slice)) f w := by
  rcases hY with rfl | ⟨b, o, us, rfl, hB, hR⟩
  · have hm0 : m = 0 := hm
    subst hm0
    refine NextT_slice (builtin_append (run_append_zero w t ty K.t i ht hi p q l c d h.le.1)) ?_
    exact hk p c w (Fr.refl _ _) (by rw [List.append_nil]; exact h) fun b hb => .inl hb
  · have hty := h.ty
    obtain ⟨vs, h1', h2, h3⟩ := h
    have one : ∀ j, j < m * K.sz → ∃ v, us[o + j]? = some v ∧ v.oneCell' = true := fun j hj => by
      have h1 : j / K.sz < ys.length := by rw [← hm]; exact Nat.div_lt_of_lt_mul (by rw [Nat.mul_comm]; exact hj)
      have h2 : j % K.sz < K.sz := Nat.mod_lt _ hpos
      obtain ⟨v, hv, ho⟩ := hone (j % K.sz) (hR (j / K.sz) _ (List.getElem?_eq_getElem h1)) h2
      refine ⟨v, ?_, ho⟩
      have e : o + j = o + j / K.sz * K.sz + j % K.sz := by have := Nat.div_add_mod j K.sz; rw [Nat.mul_comm] at this; omega
      rw [e]; exact hv
    let news : List Value := (us.drop o).take (m * K.sz)
    have hnl : news.length = m * K.sz := by
      show ((us.drop o).take (m * K.sz)).length = _
      rw [List.length_take, List.length_drop]
      by_cases h0 : m * K.sz = 0
      · omega
      · obtain ⟨v, hv, _⟩ := one (m * K.sz - 1) (by omega)
        have := (List.getElem?_eq_some_iff.1 hv).1
        omega
    have hg : ∀ j, j < m * K.sz → news[j]? = us[o + j]? := fun j hj => by
      show ((us.drop o).take (m * K.sz))[j]? = _
      rw [List.getElem?_take, if_pos hj, List.getElem?_drop]
    have hRn : Rows K w 0 news ys := fun i x hx => by
      refine K.loc (fun j hj => ?_) (hR i x hx)
      have hi := (List.getElem?_eq_some_iff.1 hx).1
      have h1 : (i + 1) * K.sz ≤ m * K.sz := Nat.mul_le_mul_right _ (by omega)
      rw [Nat.add_mul] at h1
      rw [hg _ (by omega)]
      congr 1; omega
    refine append_own (P := P) ht hi hz hs hpos hzc hb h1' (news := news) hnl (fun j u hu => ?_) (fun u hu => ?_) (by omega) fun p' c' w' f' o' hp' => hk p' c' w' f' ⟨_, o', by simp [h2, hm], ?_⟩ hp'
    · rw [add_mk, hB.cell]
      rw [hg j (by rw [← hnl]; exact (List.getElem?_eq_some_iff.1 hu).1)] at hu
      exact hu
    · obtain ⟨j, hj⟩ := List.mem_iff_getElem?.1 hu
      have hjl : j < m * K.sz := by rw [← hnl]; exact (List.getElem?_eq_some_iff.1 hj).1
      rw [hg j hjl] at hj
      obtain ⟨v, hv, ho⟩ := one j hjl
      rw [hv] at hj; injection hj with hj
      rw [← hj]; exact ho
    · have hd : ∀ b u us, bl p b → Blk w b u us → u ∉ K.dp := fun b u us hb hB e => by
        have := hty b u us hb hB
        simp at this; subst this; exact hdp e
      exact (h3.fr f' hd).append (by rw [h1'.1, h2]) (hRn.fr f' hd)
def z85 : Value := .agg #[.slice none 0 0, .int .i64 0]
theorem inf85 : ∃ i, Tryz.prog.info? 47 = some i ∧ i.zero = some z85 ∧ i.size = 2 ∧ i.bytes ≤ 4096 := ⟨_, rfl, by kernel_rfl, by kernel_rfl, Nat.le_of_ble_eq_true (by kernel_rfl)⟩
theorem fill85 (p : Option Addr) (l c : Nat) (i : Int) : ∀ i' : TypeInfo, i'.size = 2 → Instr.fill (fun j => some (j * i'.size, i'.size)) ((Array.range (1 * i'.size)).map (z85.cells[· % z85.cells.size]!)) [(0, .agg #[.slice p l c, .int .i64 i])] = some [.slice p l c, .int .i64 i].toArray := by
  intro i' h; rw [h]; kernel_rfl
theorem doK_one {t : TypeId} {w : World} {g : Nat → Option Value} {x : PD} (j : Nat) (h : (DoK t).P w g x) (hj : j < 2) : ∃ v, g j = some v ∧ v.oneCell' = true := by
  obtain ⟨p, c, h0, h1, _⟩ := h
  match j, hj with
  | 0, _ => exact ⟨_, h0, rfl⟩
  | 1, _ => exact ⟨_, h1, rfl⟩
def Lp (w : World) (p : Option Addr) (c : Nat) (xs : List PD) : Prop := Sl (DoK 47) w p xs ∧ xs.length ≤ c
theorem Lp.fr0 {w w' : World} {p : Option Addr} {c : Nat} {xs : List PD} (h : Lp w p c xs) (f : Fr (fun _ => False) w w') : Lp w' p c xs := ⟨h.1.fr0 f, h.2⟩
theorem SlO.lp {w : World} {p : Option Addr} {l c : Nat} {xs : List PD} (h : SlO (DoK 47) w p l c xs) : Lp w p c xs := ⟨h.sl, by rw [← h.len]; exact h.le.1⟩
end Go.Proofs.YtfokodpnoiilbaaGreat.E
