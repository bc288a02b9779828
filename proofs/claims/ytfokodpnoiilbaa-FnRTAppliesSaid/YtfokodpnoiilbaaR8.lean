/-
  Range trees: entries in a box are gone through (apply).
-/
import Derived.Test.YtfokodpnoiilbaaR7
namespace Go.Proofs.Ytfokodpnoiilbaa.E
open Go
set_option linter.unusedSimpArgs false
set_option linter.unusedVariables false
set_option maxRecDepth 100000
set_option maxHeartbeats 8000000

/-! ## Plain -/
section
variable {α : Type}
/-- Elements are noted as long as one is told to go on. -/
def goOn (go : List α → Bool) : List α → List α → List α × Bool
  | acc, [] => (acc, true)
  | acc, x :: xs => if go (acc ++ [x]) = true then goOn go (acc ++ [x]) xs else (acc ++ [x], false)
theorem goOn_one (go : List α → Bool) (acc : List α) (x : α) : goOn go acc [x] = (acc ++ [x], go (acc ++ [x])) := by
  show (if go (acc ++ [x]) = true then (acc ++ [x], true) else (acc ++ [x], false)) = _
  cases go (acc ++ [x]) <;> rfl
theorem goOn_append (go : List α → Bool) : ∀ (xs acc ys : List α), goOn go acc (xs ++ ys) = if (goOn go acc xs).2 = true then goOn go (goOn go acc xs).1 ys else ((goOn go acc xs).1, false)
  | [], acc, ys => rfl
  | x :: xs, acc, ys => by
    show (if go (acc ++ [x]) = true then goOn go (acc ++ [x]) (xs ++ ys) else (acc ++ [x], false)) = _
    by_cases h : go (acc ++ [x]) = true
    · have e : goOn go acc (x :: xs) = goOn go (acc ++ [x]) xs := if_pos h
      rw [if_pos h, e, goOn_append go xs]
    · have e : goOn go acc (x :: xs) = (acc ++ [x], false) := if_neg h
      rw [if_neg h, e]; rfl
theorem goOn_all : ∀ (xs acc : List α), goOn (fun _ => true) acc xs = (acc ++ xs, true)
  | [], acc => by simp [goOn]
  | x :: xs, acc => by
    show goOn (fun _ => true) (acc ++ [x]) xs = _
    rw [goOn_all xs]; simp
theorem goOn_take (k : Nat) : ∀ (xs acc : List α), acc.length ≤ k → (goOn (fun l => decide (l.length ≤ k)) acc xs).1 = acc ++ xs.take (k + 1 - acc.length)
  | [], acc, h => by simp [goOn]
  | x :: xs, acc, h => by
    show (if decide ((acc ++ [x]).length ≤ k) = true then goOn _ (acc ++ [x]) xs else (acc ++ [x], false)).1 = _
    by_cases hl : acc.length + 1 ≤ k
    · rw [if_pos (by simp; exact hl), goOn_take k xs _ (by simp; exact hl)]
      have e : k + 1 - acc.length = (k + 1 - (acc ++ [x]).length) + 1 := by simp; omega
      rw [e, List.take_succ_cons]; simp
    · rw [if_neg (by simp; omega)]
      have e : k + 1 - acc.length = 0 + 1 := by omega
      rw [e, List.take_succ_cons]; rfl
theorem goOn_len (go : List α → Bool) : ∀ (xs acc : List α), (goOn go acc xs).1.length ≤ acc.length + xs.length
  | [], acc => Nat.le_refl _
  | x :: xs, acc => by
    show (if go (acc ++ [x]) = true then goOn go (acc ++ [x]) xs else (acc ++ [x], false)).1.length ≤ _
    split
    · have := goOn_len go xs (acc ++ [x])
      simp at this ⊢; omega
    · simp
def vis (lo hi : Nat → Int) : (n : Nat) → Nat → ON α n → List α
  | 0, _, e => [e]
  | n + 1, i, L => (((L : List (Int × ON α n)).drop (lbd (lo i) ((L : List (Int × ON α n)).map Prod.fst))).takeWhile fun p => decide (p.1 ≤ hi i)).flatMap fun p => vis lo hi n (i + 1) p.2
end
/-- Blocks of lists of entries turn, and no others. -/
def Ft (base : Nat) (w w' : World) : Prop := ∃ S, Fr S w w' ∧ Tys S w [144, 153] ∧ ∀ b, S b → base ≤ b
theorem Ft.of0 {base : Nat} {w w' : World} (f : Fr (fun _ => False) w w') : Ft base w w' := ⟨_, f, fun _ _ _ h => h.elim, fun _ h => h.elim⟩
theorem Ft.trans {base : Nat} {w w1 w2 : World} : Ft base w w1 → Ft base w1 w2 → Ft base w w2 := fun ⟨S, f, h, g⟩ ⟨S2, f2, h2, g2⟩ => ⟨fun y => S y ∨ S2 y, (f.mono fun y hy => .inl (.inl hy)).trans f2 fun y hy => .inl (.inr hy), fun b u us hb hB => by
  by_cases hS : S b
  · exact h b u us hS hB
  · rcases hb with hb | hb
    · exact h b u us hb hB
    · exact h2 b u us hb (hB.fr f hS), fun b hb => hb.elim (g b) (g2 b)⟩
theorem Ft.blk {base : Nat} {w w' : World} {b t : Nat} {us : List Value} (h : Blk w b t us) (f : Ft base w w') (ht : t ≠ 144 ∧ t ≠ 153) : Blk w' b t us := by
  obtain ⟨S, f, hS, _⟩ := f
  refine h.fr f fun hs => ?_
  have := hS b t us hs h
  simp only [List.mem_cons, List.not_mem_nil, or_false] at this
  rcases this with e | e
  · exact ht.1 e
  · exact ht.2 e
theorem Ft.rm {base base' : Nat} {w w' : World} {tb num dm pl pc : Nat} {pp : Option Addr} {D : List Nat} {s : RSt} (h : RM w base' tb num dm pp pl pc D s) (f : Ft base w w') : RM w' base' tb num dm pp pl pc D s := by
  obtain ⟨S, f, hS, _⟩ := f
  refine h.fr f fun b u us hs hB => ?_
  have := hS b u us hs hB
  simp only [List.mem_cons, List.not_mem_nil, or_false] at this
  rcases this with e | e <;> rw [e] <;> decide
theorem Ft.sl {base : Nat} {w w' : World} {p : Option Addr} {l : List Int} (h : Sl In64K w p l) (f : Ft base w w') : Sl In64K w' p l := by
  obtain ⟨S, f, hS, _⟩ := f
  exact h.fr f hS (by decide)
/-! ## The box -/
structure Bx where
  p : Option Addr
  c : Nat
  lo : List Int
  q : Option Addr
  d : Nat
  hi : List Int
def Bx.v (x : Bx) : Value := .iface 181 (.agg #[.slice x.p x.lo.length x.c, .slice x.q x.hi.length x.d, .int .u64 0])
def BxOk (w : World) (x : Bx) : Prop := Sl In64K w x.p x.lo ∧ Sl In64K w x.q x.hi ∧ x.lo.length < 1000 ∧ x.hi.length < 1000
theorem BxOk.fr0 {w w' : World} {x : Bx} (h : BxOk w x) (f : Fr (fun _ => False) w w') : BxOk w' x := ⟨h.1.fr0 f, h.2.1.fr0 f, h.2.2⟩
theorem BxOk.ft {base : Nat} {w w' : World} {x : Bx} (h : BxOk w x) (f : Ft base w w') : BxOk w' x := ⟨f.sl h.1, f.sl h.2.1, h.2.2⟩
theorem m_low (p q : Option Addr) (l c m d : Nat) (i j : Int) (w : World) : (callMethod (.iface 181 (.agg #[.slice p l c, .slice q m d, .int .u64 i])) "LowAtDimension" [.int .u64 j].toArray).run Try.prog w = .ok (.enter 161 #[.agg #[.slice p l c, .slice q m d, .int .u64 i], .int .u64 j]) w := by kernel_rfl
theorem m_high (p q : Option Addr) (l c m d : Nat) (i j : Int) (w : World) : (callMethod (.iface 181 (.agg #[.slice p l c, .slice q m d, .int .u64 i])) "HighAtDimension" [.int .u64 j].toArray).run Try.prog w = .ok (.enter 159 #[.agg #[.slice p l c, .slice q m d, .int .u64 i], .int .u64 j]) w := by kernel_rfl
theorem low_intro {w : World} {x : Bx} {i : Nat} {f : Int → W} (h : BxOk w x) (hd : i < 1000) (hk : ∀ w', Fr (fun _ => False) w w' → f (plI x.lo i) w') : NextT Try.prog (callMethod x.v "LowAtDimension" [.int .u64 ((i : Nat) : Int)].toArray) (.s (.one (.int .i64))) f w := by
  refine NextT_enterR (m_low _ _ _ _ _ _ _ _ w) (F161_calls ?_)
  unfold F161
  refine new_intro fun n w1 e1 b1 f1 z1 => load_slice (i := 0) b1 rfl ?_
  exact F162_call (F162_dt (h.fr0 f1).1 h.2.2.1 hd (back_int (back_int (hk w1 f1))))
theorem high_intro {w : World} {x : Bx} {i : Nat} {f : Int → W} (h : BxOk w x) (hd : i < 1000) (hk : ∀ w', Fr (fun _ => False) w w' → f (plI x.hi i) w') : NextT Try.prog (callMethod x.v "HighAtDimension" [.int .u64 ((i : Nat) : Int)].toArray) (.s (.one (.int .i64))) f w := by
  refine NextT_enterR (m_high _ _ _ _ _ _ _ _ w) (F159_calls ?_)
  unfold F159
  refine new_intro fun n w1 e1 b1 f1 z1 => load_slice (i := 1) b1 rfl ?_
  exact F162_call (F162_dt (h.fr0 f1).2.1 h.2.2.2 hd (back_int (back_int (hk w1 f1))))
theorem ent131 : ∀ args w, (callFunc 131 args).run Try.prog w = .ok (.enter 131 args) w := enters_of Try.func131 (by kernel_rfl) rfl
section
variable {base tb num dm pl pc B : Nat} {pp : Option Addr} {D : List Nat} {s : RSt}
def pick (s : RSt) (hi : Int) (l : List Nat) : List Nat := l.takeWhile fun c => decide ((s c).v ≤ hi)
/-- orderedNodes.apply. -/
theorem F130_spec {w : World} {k : Value → W} {x : Nat} {P : List (Option Dtn) → World → Prop} {go : List (Option Dtn) → Bool} {items : Nat → List (Option Dtn)} {fn : Value} {acc : List (Option Dtn)} {lo hi : Int} {N : Nat}
    (hP : ∀ acc w w', P acc w → Fr (fun _ => False) w w' → P acc w')
    (cb : ∀ acc c w (f : Bool → W), P acc w → acc.length + (items c).length ≤ N → RM w base tb num dm pp pl pc D s → c ∈ (s x).kids → (∀ w', P (goOn go acc (items c)).1 w' → Ft base w w' → f (goOn go acc (items c)).2 w') → NextT Try.prog (callV fn [.pointer (some ⟨c, 0, none⟩)].toArray) (.s (.one .bool)) f w)
    (h : RM w base tb num dm pp pl pc D s) (hx : x = tb ∨ x ∈ D) (hs : (keysR s x).Pairwise (· < ·)) (hl : (s x).kids.length < 100000) (p : P acc w) (hN : acc.length + ((pick s hi ((s x).kids.drop (lbd lo (keysR s x)))).flatMap items).length ≤ N)
    (hk : ∀ w', P (goOn go acc ((pick s hi ((s x).kids.drop (lbd lo (keysR s x)))).flatMap items)).1 w' → Ft base w w' → k (.bool (goOn go acc ((pick s hi ((s x).kids.drop (lbd lo (keysR s x)))).flatMap items)).2) w') :
    F130 k (s x).p (s x).kids.length (s x).c lo hi fn w := by
  have hle := lbd_le lo (keysR s x)
  have hkl : (keysR s x).length = (s x).kids.length := by unfold keysR; rw [List.length_map]
  unfold F130
  refine F134_call (F134_spec h hx hs hl fun w1 f1 => back_int ?_)
  rw [show lbd lo ((s x).kids.map fun c => (s c).v) = lbd lo (keysR s x) from rfl]
  generalize hj : lbd lo (keysR s x) = j at *
  have h1 := h.fr0 f1
  have p1 := hP _ _ _ p f1
  by_cases he : j = (s x).kids.length
  · rw [show (((j : Nat) : Int) == (((s x).kids.length : Nat) : Int)) = true by rw [beq_iff_eq]; omega, BIf_true]
    rw [he, List.drop_length] at hk
    exact hk w1 p1 (.of0 f1)
  · rw [show (((j : Nat) : Int) == (((s x).kids.length : Nat) : Int)) = false by rw [beq_eq_false_iff_ne]; omega, BIf_false]
    refine F130_L1_rule (I := fun np nl nc h' fv ix w' => np = (s x).p ∧ nl = (s x).kids.length ∧ nc = (s x).c ∧ h' = hi ∧ fv = fn ∧ ∃ (a : Nat) (acc' : List (Option Dtn)), ix = ((a : Nat) : Int) ∧ a ≤ (s x).kids.length ∧ RM w' base tb num dm pp pl pc D s ∧ P acc' w' ∧ Ft base w w' ∧ goOn go acc ((pick s hi ((s x).kids.drop j)).flatMap items) = goOn go acc' ((pick s hi ((s x).kids.drop a)).flatMap items) ∧ acc'.length + ((pick s hi ((s x).kids.drop a)).flatMap items).length ≤ N)
      (μ := fun np nl nc h' fv ix w' => (s x).kids.length - ix.toNat) ?_ ⟨rfl, rfl, rfl, rfl, rfl, j, acc, rfl, by omega, h1, p1, .of0 f1, rfl, hN⟩
    rintro np nl nc h' fv ix w2 ⟨e1, e2, e3, e4, e5, a, acc', rfl, ha, h2, p2, f2, hg, hN2⟩
    obtain rfl := e4.symm
    obtain rfl := e5.symm
    unfold F130_L1
    rw [e1, e2]
    by_cases hlt : a < (s x).kids.length
    · rw [decide_eq_true (show ((a : Nat) : Int) < (((s x).kids.length : Nat) : Int) by omega), BIf_true]
      have hc : (s x).kids[a]? = some (s x).kids[a] := List.getElem?_eq_getElem hlt
      have hd : (s x).kids.drop a = (s x).kids[a] :: (s x).kids.drop (a + 1) := List.drop_eq_getElem_cons hlt
      generalize (s x).kids[a] = c at hc hd
      have hcm : c ∈ (s x).kids := List.mem_of_getElem? hc
      have hcD : c ∈ D := h.kd x hx c hcm
      obtain ⟨q, rest, hp, hB, _, _⟩ := (h2.own x hx).get (by omega)
      have cellq : ∀ {f : Option Addr → W}, f (some ⟨c, 0, none⟩) w2 → LoadT .ptr ⟨q, a, none⟩ f w2 := fun hf => load_ptr hB (by rw [List.getElem?_append_left (by simp; omega), ptrs_get, hc]; rfl) hf
      rw [hp]
      simp only [NN_mk, Int.toNat_natCast, add_mk, Nat.zero_add]
      refine Req_iff.2 ⟨by omega, cellq ?_⟩
      simp only [NN_mk]
      refine load_int (i := 0) (h2.nodes c hcD) rfl ?_
      by_cases hv : (s c).v > hi
      · rw [decide_eq_true hv, BIf_true]
        have e : pick s hi ((s x).kids.drop a) = [] := by
          unfold pick; rw [hd, List.takeWhile_cons, if_neg (by simp; omega)]
        rw [e] at hg
        rw [hg] at hk
        exact hk w2 p2 f2
      · rw [decide_eq_false hv, BIf_false]
        refine Req_iff.2 ⟨by omega, cellq ?_⟩
        have e : pick s hi ((s x).kids.drop a) = c :: pick s hi ((s x).kids.drop (a + 1)) := by
          unfold pick; rw [hd, List.takeWhile_cons, if_pos (by simp; omega)]
        rw [e, List.flatMap_cons, goOn_append] at hg
        rw [e, List.flatMap_cons, List.length_append] at hN2
        have hgl := goOn_len go (items c) acc'
        refine cb acc' c w2 _ p2 (by omega) h2 hcm fun w3 p3 f3 => ?_
        cases hb : (goOn go acc' (items c)).2 with
        | false =>
          rw [hb, if_neg (by decide)] at hg
          rw [hg] at hk
          exact hk w3 p3 (f2.trans f3)
        | true =>
          rw [hb, if_pos rfl] at hg
          rw [show (!true) = false from rfl, BIf_false, addI_i64 (by omega) (by omega)]
          refine ⟨⟨by trivial, by trivial, e3, by trivial, by trivial, a + 1, _, by omega, hlt, f3.rm h2, p3, f2.trans f3, hg, by omega⟩, ?_⟩
          show (s x).kids.length - (((a : Nat) : Int) + 1).toNat < (s x).kids.length - ((a : Nat) : Int).toNat
          omega
    · rw [decide_eq_false (show ¬ ((a : Nat) : Int) < (((s x).kids.length : Nat) : Int) by omega), BIf_false]
      have : a = (s x).kids.length := by omega
      subst this
      rw [List.drop_length] at hg
      rw [hg] at hk
      exact hk w2 p2 f2
theorem vis_lvl (lo hi : Nat → Int) (m i x : Nat) : vis lo hi (m + 1) i (absN (m + 1) s x) = (pick s (hi i) ((s x).kids.drop (lbd (lo i) (keysR s x)))).flatMap fun c => vis lo hi m (i + 1) (absN m s c) := by
  show (((lvl m s (s x).kids).drop (lbd (lo i) ((lvl m s (s x).kids).map Prod.fst))).takeWhile fun p => decide (p.1 ≤ hi i)).flatMap (fun p => vis lo hi m (i + 1) p.2) = _
  rw [lvl_fst]
  unfold pick lvl keysR
  rw [← List.map_drop, List.takeWhile_map, List.flatMap_map]
  rfl
/-- What apply's callback does. -/
def Cb (P : List (Option Dtn) → World → Prop) (go : List (Option Dtn) → Bool) (fn : Value) (N base tb num dm : Nat) (pp : Option Addr) (pl pc : Nat) (D : List Nat) (s : RSt) : Prop :=
  ∀ acc c w (f : Bool → W), P acc w → acc.length < N → RM w base tb num dm pp pl pc D s → c ∈ D → (∀ w', P (acc ++ [(s c).e]) w' → Ft base w w' → f (go (acc ++ [(s c).e])) w') → NextT Try.prog (callV fn [.pointer (some ⟨c, 0, none⟩)].toArray) (.s (.one .bool)) f w
/-- orderedTree.apply. -/
theorem F119_spec {N : Nat} {bx : Bx} {go : List (Option Dtn) → Bool} {fn : Value} (hfn : oneC fn = true) (hdm : dm < 1000) : ∀ (m : Nat) {w : World} {k : Value → W} {x i : Nat} {P : List (Option Dtn) → World → Prop} {acc : List (Option Dtn)},
    i + m = dm → 1 ≤ i → (∀ acc w w', P acc w → Fr (fun _ => False) w w' → P acc w') → Cb P go fn N base tb num dm pp pl pc D s → RM w base tb num dm pp pl pc D s → (x = tb ∨ x ∈ D) → SrtN (m + 1) (absN (m + 1) s x) → (∀ b, (b = tb ∨ b ∈ D) → (s b).kids.length < 100000) → BxOk w bx → P acc w → acc.length + (vis (plI bx.lo) (plI bx.hi) (m + 1) i (absN (m + 1) s x)).length ≤ N →
    (∀ w', P (goOn go acc (vis (plI bx.lo) (plI bx.hi) (m + 1) i (absN (m + 1) s x))).1 w' → Ft base w w' → k (.bool (goOn go acc (vis (plI bx.lo) (plI bx.hi) (m + 1) i (absN (m + 1) s x))).2) w') →
    F119 k (some ⟨tb, 0, none⟩) (s x).p (s x).kids.length (s x).c bx.v ((i : Nat) : Int) fn w := fun m => by
  induction m with
  | zero =>
    intro w k x i P acc him hi1 hP cb h hx sr hl hb p hN hk
    unfold F119
    refine new_intro fun n6 w1 e1 b1 f1 z1 => Req_iff.2 ⟨rfl, new_intro fun n7 w2 e2 b2 f2 z2 => new_intro fun n8 w3 e3 b3 f3 z3 => Req_iff.2 ⟨hfn, new_intro fun n9 w4 e4 b4 f4 z4 => drw_intro fun w5 f5 z5 => ?_⟩⟩
    have f05 : Fr (fun _ => False) w w5 := (((f1.trans f2 fun _ h => h.elim).trans f3 fun _ h => h.elim).trans f4 fun _ h => h.elim).trans f5 fun _ h => h.elim
    have b7 : Blk w5 n7 149 [bx.v] := ((b2.fr f3 id).fr f4 id).fr f5 id
    have b8 : Blk w5 n8 33 [.int .u64 ((i : Nat) : Int)] := (b3.fr f4 id).fr f5 id
    have b6 : Blk w5 n6 140 [.pointer (some ⟨tb, 0, none⟩)] := (((b1.fr f2 id).fr f3 id).fr f4 id).fr f5 id
    have b9 : Blk w5 n9 226 [fn] := b4.fr f5 id
    refine load_any (i := 0) b7 rfl (load_int (i := 0) b8 rfl (load_any (i := 0) b7 rfl (load_int (i := 0) b8 rfl ?_)))
    refine low_intro (hb.fr0 f05) (by omega) fun w6 f6 => ?_
    refine chk (i := 0) (b8.fr f6 id) rfl (chk (i := 0) (b7.fr f6 id) rfl ?_)
    have f06 := f05.trans f6 fun _ h => h.elim
    refine high_intro (hb.fr0 f06) (by omega) fun w7 f7 => ?_
    refine chk (i := 0) ((b8.fr f6 id).fr f7 id) rfl (chk (i := 0) ((b7.fr f6 id).fr f7 id) rfl ?_)
    refine drw_intro fun w8 f8 z8 => ?_
    have f58 : Fr (fun _ => False) w5 w8 := (f6.trans f7 fun _ h => h.elim).trans f8 fun _ h => h.elim
    have f08 := f05.trans f58 fun _ h => h.elim
    refine load_ptr (i := 0) (b6.fr f58 id) rfl ?_
    simp only [NN_mk, add_mk, Nat.zero_add]
    have h8 := h.fr0 f08
    refine load_int (i := 2) h8.top rfl (load_int (i := 0) (b8.fr f58 id) rfl ?_)
    refine F126_call (F126_yes (by omega) (back_bool ?_))
    refine chk (i := 0) (b6.fr f58 id) rfl ?_
    rw [BIf_true]
    refine load_any (i := 0) (b9.fr f58 id) rfl ?_
    rw [vis_lvl] at hk hN
    refine F130_call (F130_spec (P := P) (go := go) (items := fun c => [(s c).e]) (acc := acc) hP (fun acc c w f p hn h hc hk => cb acc c w f p hn h (h.kd x hx c hc) fun w' p' f' => ?_) h8 hx (sr_keys sr) (hl x hx) (hP _ _ _ p f08) hN fun w9 p9 f9 => back_bool ?_)
    · rw [goOn_one] at hk
      exact hk w' p' f'
    · have := hk w9 p9 ((Ft.of0 f08).trans f9)
      have e : (goOn go acc ((pick s (plI bx.hi i) ((s x).kids.drop (lbd (plI bx.lo i) (keysR s x)))).flatMap fun c => [(s c).e])).2 = (goOn go acc ((pick s (plI bx.hi i) ((s x).kids.drop (lbd (plI bx.lo i) (keysR s x)))).flatMap fun c => vis (plI bx.lo) (plI bx.hi) 0 (i + 1) (absN 0 s c))).2 := rfl
      rw [e]
      generalize (goOn go acc ((pick s (plI bx.hi i) ((s x).kids.drop (lbd (plI bx.lo i) (keysR s x)))).flatMap fun c => vis (plI bx.lo) (plI bx.hi) 0 (i + 1) (absN 0 s c))).2 = bb at this ⊢
      cases bb
      · exact this
      · exact this
  | succ m ih =>
    intro w k x i P acc him hi1 hP cb h hx sr hl hb p hN hk
    unfold F119
    refine new_intro fun n6 w1 e1 b1 f1 z1 => Req_iff.2 ⟨rfl, new_intro fun n7 w2 e2 b2 f2 z2 => new_intro fun n8 w3 e3 b3 f3 z3 => Req_iff.2 ⟨hfn, new_intro fun n9 w4 e4 b4 f4 z4 => drw_intro fun w5 f5 z5 => ?_⟩⟩
    have f05 : Fr (fun _ => False) w w5 := (((f1.trans f2 fun _ h => h.elim).trans f3 fun _ h => h.elim).trans f4 fun _ h => h.elim).trans f5 fun _ h => h.elim
    have b7 : Blk w5 n7 149 [bx.v] := ((b2.fr f3 id).fr f4 id).fr f5 id
    have b8 : Blk w5 n8 33 [.int .u64 ((i : Nat) : Int)] := (b3.fr f4 id).fr f5 id
    have b6 : Blk w5 n6 140 [.pointer (some ⟨tb, 0, none⟩)] := (((b1.fr f2 id).fr f3 id).fr f4 id).fr f5 id
    have b9 : Blk w5 n9 226 [fn] := b4.fr f5 id
    refine load_any (i := 0) b7 rfl (load_int (i := 0) b8 rfl (load_any (i := 0) b7 rfl (load_int (i := 0) b8 rfl ?_)))
    refine low_intro (hb.fr0 f05) (by omega) fun w6 f6 => ?_
    refine chk (i := 0) (b8.fr f6 id) rfl (chk (i := 0) (b7.fr f6 id) rfl ?_)
    have f06 := f05.trans f6 fun _ h => h.elim
    refine high_intro (hb.fr0 f06) (by omega) fun w7 f7 => ?_
    refine chk (i := 0) ((b8.fr f6 id).fr f7 id) rfl (chk (i := 0) ((b7.fr f6 id).fr f7 id) rfl ?_)
    refine drw_intro fun w8 f8 z8 => ?_
    have f58 : Fr (fun _ => False) w5 w8 := (f6.trans f7 fun _ h => h.elim).trans f8 fun _ h => h.elim
    have f08 := f05.trans f58 fun _ h => h.elim
    refine load_ptr (i := 0) (b6.fr f58 id) rfl ?_
    simp only [NN_mk, add_mk, Nat.zero_add]
    have h8 := h.fr0 f08
    refine load_int (i := 2) h8.top rfl (load_int (i := 0) (b8.fr f58 id) rfl ?_)
    refine F126_call (F126_no (by omega) hdm (back_bool ?_))
    refine chk (i := 0) (b6.fr f58 id) rfl ?_
    rw [BIf_false]
    rw [vis_lvl] at hk hN
    refine F130_call (F130_spec (P := fun acc w => P acc w ∧ Blk w n6 140 [.pointer (some ⟨tb, 0, none⟩)] ∧ Blk w n7 149 [bx.v] ∧ Blk w n8 33 [.int .u64 ((i : Nat) : Int)] ∧ Blk w n9 226 [fn] ∧ BxOk w bx) (go := go) (items := fun c => vis (plI bx.lo) (plI bx.hi) (m + 1) (i + 1) (absN (m + 1) s c)) (acc := acc)
      (fun acc w w' ⟨p, c6, c7, c8, c9, cb⟩ f => ⟨hP _ _ _ p f, c6.fr f id, c7.fr f id, c8.fr f id, c9.fr f id, cb.fr0 f⟩) (fun acc c w f pp hn h hc hk => ?_) h8 hx (sr_keys sr) (hl x hx) ⟨hP _ _ _ p f08, b6.fr f58 id, b7.fr f58 id, b8.fr f58 id, b9.fr f58 id, hb.fr0 f08⟩ hN fun w9 p9 f9 => back_bool ?_)
    · obtain ⟨p, c6, c7, c8, c9, cbx⟩ := pp
      have hcD := h.kd x hx c hc
      refine NextT_enterR (callV_enter ent131) (F131_calls ?_)
      unfold F131
      refine drw_intro fun wa fa za => ?_
      simp only [NN_mk, add_mk, Nat.zero_add]
      have ha := h.fr0 fa
      refine load_ptr (i := 0) (c6.fr fa id) rfl (load_slice (i := 2) (ha.nodes c hcD) rfl (load_any (i := 0) (c7.fr fa id) rfl (load_int (i := 0) (c8.fr fa id) rfl (load_any (i := 0) (c9.fr fa id) rfl ?_))))
      rw [addI_u64 (by omega) (by omega), show ((i : Nat) : Int) + 1 = ((i + 1 : Nat) : Int) by omega]
      refine F119_call (ih (acc := acc) (P := fun acc w => P acc w ∧ Blk w n6 140 [.pointer (some ⟨tb, 0, none⟩)] ∧ Blk w n7 149 [bx.v] ∧ Blk w n8 33 [.int .u64 ((i : Nat) : Int)] ∧ Blk w n9 226 [fn] ∧ BxOk w bx) (by omega) (by omega)
        (fun acc w w' ⟨p, c6, c7, c8, c9, cb⟩ f => ⟨hP _ _ _ p f, c6.fr f id, c7.fr f id, c8.fr f id, c9.fr f id, cb.fr0 f⟩)
        (fun acc c w f ⟨p, c6, c7, c8, c9, cbx⟩ hn h hc hk => cb acc c w f p hn h hc fun w' p' f' => hk w' ⟨p', f'.blk c6 (by decide), f'.blk c7 (by decide), f'.blk c8 (by decide), f'.blk c9 (by decide), cbx.ft f'⟩ f')
        ha (.inr hcD) (sr.2 ((s c).v, absN (m + 1) s c) (List.mem_map.2 ⟨c, hc, rfl⟩)) hl (cbx.fr0 fa) ⟨hP _ _ _ p fa, c6.fr fa id, c7.fr fa id, c8.fr fa id, c9.fr fa id, cbx.fr0 fa⟩ hn fun wb pb fb => back_bool ?_)
      refine chk (i := 0) pb.2.2.2.1 rfl ?_
      have := hk wb pb ((Ft.of0 fa).trans fb)
      generalize (goOn go acc (vis (plI bx.lo) (plI bx.hi) (m + 1) (i + 1) (absN (m + 1) s c))).2 = bb at this ⊢
      cases bb
      · exact back_bool this
      · exact back_bool this
    · have := hk w9 p9.1 ((Ft.of0 f08).trans f9)
      generalize (goOn go acc ((pick s (plI bx.hi i) ((s x).kids.drop (lbd (plI bx.lo i) (keysR s x)))).flatMap fun c => vis (plI bx.lo) (plI bx.hi) (m + 1) (i + 1) (absN (m + 1) s c))).2 = bb at this ⊢
      cases bb
      · exact this
      · exact this
end
end Go.Proofs.Ytfokodpnoiilbaa.E
