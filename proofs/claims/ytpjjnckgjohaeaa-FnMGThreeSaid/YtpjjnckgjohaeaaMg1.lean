/-
  Merging in place: elements compared, searched, exchanged, rotated, merged.
-/
import Derived.Test.YtpjjnckgjohaeaaIS2
import Derived.Test.YtpjjnckgjohaeaaSym
import Derived.Test.YtpjjnckgjohaeaaFnsC
namespace Go.Proofs.Ytpjjnckgjohaeaa.E
open Go
set_option linter.unusedSimpArgs false
set_option linter.unusedVariables false
set_option maxRecDepth 100000
set_option maxHeartbeats 2000000

/-- An element as the package takes it. -/
def enc (q : Int × Int) : Value := .iface 62 (.agg #[.int .i64 q.1, .int .i64 q.2])
def encs (l : List (Int × Int)) : List Value := l.map enc
theorem encs_get (l : List (Int × Int)) (i : Nat) : (encs l)[i]? = l[i]?.map enc := List.getElem?_map
theorem encs_length (l : List (Int × Int)) : (encs l).length = l.length := List.length_map ..
theorem encs_one (xs : List (Int × Int)) : ∀ u ∈ encs xs, u.oneCell' = true := by
  intro u hu
  obtain ⟨x, _, rfl⟩ := List.mem_map.1 hu
  rfl
def key (q : Int × Int) : Int := q.1

theorem meth (a b : Int × Int) (w : World) : (callMethod (enc a) "Compare" [enc b].toArray).run Try.prog w = .ok (.enter 106 #[.agg #[.int .i64 a.1, .int .i64 a.2], enc b]) w := by kernel_rfl
theorem F107_spec {k : Value → W} {w : World} {a b : Int} (hk : ∀ r : Int, (r ≤ 0 ↔ a ≤ b) → k (.int .i64 r) w) : F107 k a b w := by
  unfold F107
  refine BIf_intro (fun h => ?_) fun h => BIf_intro (fun h' => ?_) fun h' => ?_
  · have h := of_decide_eq_true h; exact hk _ (by constructor <;> intro <;> omega)
  · have h' := of_decide_eq_true h'; exact hk _ (by constructor <;> intro <;> omega)
  · have h := of_decide_eq_false h; have h' := of_decide_eq_false h'; exact hk _ (by constructor <;> intro <;> omega)
theorem cmp_intro {a b : Int × Int} {f : Int → W} {w : World} (hk : ∀ r w', (r ≤ 0 ↔ key a ≤ key b) → Fr (fun _ => False) w w' → f r w') : NextT Try.prog (callMethod (enc a) "Compare" [enc b].toArray) (.s (.one (.int .i64))) f w := by
  refine NextT_enter (meth a b w) ?_
  refine F106_calls ?_
  unfold F106
  refine new_intro fun n w1 e1 b1 f1 z1 => ?_
  refine drw_intro fun w2 f2 z2 => ?_
  refine load_int (b1.fr f2 id) rfl ?_
  refine ⟨(b.1, b.2, ()), rfl, ?_⟩
  refine F107_call (F107_spec fun r hr => back_int (back_int ?_))
  exact hk r w2 hr (f1.trans f2 fun _ h => h.elim)

/-- The row at q holds the elements f. -/
def AR (w : World) (q c n : Nat) (f : Nat → Int × Int) : Prop := Own w 60 (some ⟨q, 0, none⟩) n c (encs (seg f 0 n))
theorem AR.cell {w : World} {q c n : Nat} {f : Nat → Int × Int} (h : AR w q c n f) {i : Nat} (hi : i < n) : w.cell? ⟨q, i, none⟩ = some (enc (f i)) := by
  rw [Own.cell h hi, encs_get, seg_get f n 0 i hi, Nat.zero_add]; rfl
theorem AR.frozen {w : World} {q c n : Nat} {f : Nat → Int × Int} (h : AR w q c n f) (i : Nat) : w.frozen? ⟨q, i, none⟩ = false := Own.frozen h i
theorem AR.fr0 {w w' : World} {q c n : Nat} {f : Nat → Int × Int} (h : AR w q c n f) (g : Fr (fun _ => False) w w') : AR w' q c n f := Own.fr h g fun _ _ h => h
def upd1 (f : Nat → Int × Int) (i : Nat) (x : Int × Int) : Nat → Int × Int := fun j => if j = i then x else f j
theorem seg_set (f : Nat → Int × Int) (x : Int × Int) : ∀ (n s i : Nat), i < n → (seg f s n).set i x = seg (upd1 f (s + i) x) s n
  | 0, _, _, h => by omega
  | n + 1, s, 0, _ => by
    simp only [seg, List.set_cons_zero, Nat.add_zero]
    rw [show upd1 f s x s = x by simp [upd1]]
    congr 1
    exact seg_congr n (s + 1) (s + 1) fun y hy => by unfold upd1; rw [if_neg (by omega)]
  | n + 1, s, i + 1, h => by
    simp only [seg, List.set_cons_succ]
    rw [show upd1 f (s + (i + 1)) x s = f s by unfold upd1; rw [if_neg (by omega)]]
    rw [seg_set f x n (s + 1) i (by omega), show s + 1 + i = s + (i + 1) by omega]
theorem AR.set {w : World} {q c n : Nat} {f : Nat → Int × Int} (h : AR w q c n f) {i : Nat} (hi : i < n) (x : Int × Int) : AR (w.setCell ⟨q, i, none⟩ (enc x)) q c n (upd1 f i x) := by
  have := Own.set h hi (enc x)
  have e : (encs (seg f 0 n)).set i (enc x) = encs (seg (upd1 f i x) 0 n) := by
    unfold encs
    rw [← List.map_set, seg_set f x n 0 i hi, Nat.zero_add]
  rw [e] at this; exact this

/-! ## The search -/
theorem F50_spec {k : Value → W} {w : World} {q c n : Nat} {f : Nat → Int × Int} {lo hi t : Nat} (h : AR w q c n f) (h1 : lo ≤ hi) (h2 : hi ≤ n) (h3 : t < n + lo) (h4 : hi ≤ t + 1) (hn : n < 100000)
    (hk : ∀ s w', lo ≤ s → s ≤ hi → (lo < s → key (f (s - 1)) ≤ key (f (t - (s - 1)))) → (s < hi → key (f (t - s)) < key (f s)) → Fr (fun _ => False) w w' → k (.int .i64 (s : Nat)) w') : F50 k (some ⟨q, 0, none⟩) n c (lo : Nat) (hi : Nat) (t : Nat) w := by
  unfold F50
  refine F50_L1_rule (fun up ul uc a b tt w' => up = some ⟨q, 0, none⟩ ∧ ul = n ∧ uc = c ∧ tt = (t : Nat) ∧ ∃ i j : Nat, a = i ∧ b = j ∧ lo ≤ i ∧ i ≤ j ∧ j ≤ hi ∧ (lo < i → key (f (i - 1)) ≤ key (f (t - (i - 1)))) ∧ (j < hi → key (f (t - j)) < key (f j)) ∧ Fr (fun _ => False) w w')
    (fun _ _ _ a b _ _ => (b - a).toNat) ?_ ⟨rfl, rfl, rfl, rfl, lo, hi, rfl, rfl, Nat.le_refl _, h1, Nat.le_refl _, fun h => by omega, fun h => by omega, Fr.refl _ _⟩
  rintro up ul uc a b tt w2 ⟨hup, hul, huc, rfl, i, j, rfl, rfl, g1, g2, g3, gL, gR, f2⟩
  obtain rfl := hup.symm; obtain rfl := hul.symm; obtain rfl := huc.symm
  unfold F50_L1
  by_cases hlt : i < j
  rotate_left
  · have : i = j := by omega
    subst this
    rw [decide_eq_false (by omega)]
    simp only [BIf_false]
    exact hk i w2 g1 g3 gL gR f2
  rw [decide_eq_true (by omega)]
  simp only [BIf_true]
  refine ⟨by decide, ?_⟩
  have em : quoI .i64 (addI .i64 (i : Nat) (j : Nat)) 2 = (((i + j) / 2 : Nat) : Int) := by
    rw [addI_i64 (by omega) (by omega), quoI_i64 (by omega) (by omega) (by omega)]; omega
  rw [em]
  refine bind_intro ?_
  have hm : i ≤ (i + j) / 2 ∧ (i + j) / 2 < j := by omega
  generalize (i + j) / 2 = m at *
  refine drw_intro fun w3 f3 z3 => ?_
  have h3' := (h.fr0 f2).fr0 f3
  have f03 := f2.trans f3 fun _ h => h.elim
  have es : subI .i64 (t : Nat) (m : Nat) = ((t - m : Nat) : Int) := by rw [subI_i64 (by omega) (by omega)]; omega
  simp only [es, NN_mk, Req_iff, LoadT_any, Int.toNat_natCast, add_mk, Nat.zero_add]
  refine ⟨by omega, _, h3'.cell (by omega), by omega, _, h3'.cell (by omega), rfl, cmp_intro fun r w4 hr f4 => ?_⟩
  have h4' := h3'.fr0 f4
  refine ⟨h4'.cell (by omega), ?_⟩
  have f04 := f03.trans f4 fun _ h => h.elim
  by_cases hle : r ≤ 0
  · rw [decide_eq_true hle]
    simp only [BIf_true]
    rw [add_one (by omega)]
    exact ⟨⟨(by trivial), (by trivial), (by trivial), (by trivial), m + 1, j, rfl, rfl, by omega, by omega, g3, fun _ => by rw [show m + 1 - 1 = m by omega]; exact hr.1 hle, gR, f04⟩, by omega⟩
  · rw [decide_eq_false hle]
    simp only [BIf_false]
    refine ⟨⟨(by trivial), (by trivial), (by trivial), (by trivial), i, m, rfl, rfl, g1, by omega, by omega, gL, fun _ => ?_, f04⟩, by omega⟩
    have : ¬ key (f m) ≤ key (f (t - m)) := fun h => hle (hr.2 h)
    omega

/-! ## Exchanges -/
theorem sw_more {f : Nat → Int × Int} {s t i : Nat} (h : s + i < t) : upd1 (upd1 (sw f s t i) (s + i) (f (t + i))) (t + i) (f (s + i)) = sw f s t (i + 1) := by
  funext x
  unfold upd1 sw
  by_cases h1 : x = t + i
  · subst h1
    rw [if_pos rfl, if_neg (by omega), if_pos (by omega)]; congr 1; omega
  · rw [if_neg h1]
    by_cases h2 : x = s + i
    · subst h2
      rw [if_pos rfl, if_pos (by omega)]; congr 1; omega
    · rw [if_neg h2]
      by_cases h3 : s ≤ x ∧ x < s + i
      · rw [if_pos h3, if_pos (by omega)]
      · by_cases h4 : t ≤ x ∧ x < t + i
        · rw [if_neg h3, if_pos h4, if_neg (by omega), if_pos (by omega)]
        · rw [if_neg h3, if_neg h4, if_neg (by omega), if_neg (by omega)]
theorem F71_spec {k : Value → W} {w : World} {q c n : Nat} {f : Nat → Int × Int} {s t e : Nat} (h : AR w q c n f) (h1 : s + e ≤ t) (h2 : t + e ≤ n) (hn : n < 100000)
    (hk : ∀ w', AR w' q c n (sw f s t e) → Fr (fun x => x = q) w w' → k (.tuple #[]) w') : F71 k (some ⟨q, 0, none⟩) n c (s : Nat) (t : Nat) (e : Nat) w := by
  unfold F71
  refine F71_L1_rule (fun up ul uc a b ee ii w' => up = some ⟨q, 0, none⟩ ∧ ul = n ∧ uc = c ∧ a = (s : Nat) ∧ b = (t : Nat) ∧ ee = (e : Nat) ∧ ∃ i : Nat, ii = i ∧ i ≤ e ∧ AR w' q c n (sw f s t i) ∧ Fr (fun x => x = q) w w')
    (fun _ _ _ _ _ ee ii _ => (ee - ii).toNat) ?_ ⟨rfl, rfl, rfl, rfl, rfl, rfl, 0, rfl, Nat.zero_le _, by rw [sw_zero]; exact h, Fr.refl _ _⟩
  rintro up ul uc a b ee ii w2 ⟨hup, hul, huc, rfl, rfl, rfl, i, rfl, hi, g, f2⟩
  obtain rfl := hup.symm; obtain rfl := hul.symm; obtain rfl := huc.symm
  unfold F71_L1
  by_cases hlt : i < e
  rotate_left
  · have : i = e := by omega
    subst this
    rw [decide_eq_false (by omega)]
    simp only [BIf_false]
    exact hk w2 g f2
  rw [decide_eq_true (by omega)]
  simp only [BIf_true]
  refine drw_intro fun w3 f3 z3 => ?_
  have g3 := g.fr0 f3
  have e1 : addI .i64 (t : Nat) (i : Nat) = ((t + i : Nat) : Int) := by rw [addI_i64 (by omega) (by omega)]; simp
  have e2 : addI .i64 (s : Nat) (i : Nat) = ((s + i : Nat) : Int) := by rw [addI_i64 (by omega) (by omega)]; simp
  have v1 : sw f s t i (t + i) = f (t + i) := by unfold sw; rw [if_neg (by omega), if_neg (by omega)]
  have v2 : sw f s t i (s + i) = f (s + i) := by unfold sw; rw [if_neg (by omega), if_neg (by omega)]
  have c1 := g3.cell (show t + i < n by omega)
  have c2 := g3.cell (show s + i < n by omega)
  rw [v1] at c1
  rw [v2] at c2
  simp only [e1, e2, NN_mk, Req_iff, LoadT_any, Int.toNat_natCast, add_mk, Nat.zero_add]
  refine ⟨by omega, _, c1, by omega, _, c2, by omega, rfl, Store1_iff.2 ⟨rfl, ⟨_, c2⟩, g3.frozen _, ?_⟩⟩
  have f4 : Fr (fun b => b = q) w3 (w3.setCell ⟨q, s + i, none⟩ (enc (f (t + i)))) := Fr.setCell _ _ _ rfl
  have g4 := g3.set (show s + i < n by omega) (f (t + i))
  generalize w3.setCell ⟨q, s + i, none⟩ (enc (f (t + i))) = w4 at *
  refine ⟨by omega, rfl, Store1_iff.2 ⟨rfl, ⟨_, g4.cell (by omega)⟩, g4.frozen _, ?_⟩⟩
  have f5 : Fr (fun b => b = q) w4 (w4.setCell ⟨q, t + i, none⟩ (enc (f (s + i)))) := Fr.setCell _ _ _ rfl
  have g5 := g4.set (show t + i < n by omega) (f (s + i))
  generalize w4.setCell ⟨q, t + i, none⟩ (enc (f (s + i))) = w5 at *
  rw [sw_more (by omega)] at g5
  rw [add_one (by omega)]
  exact ⟨⟨(by trivial), (by trivial), (by trivial), (by trivial), (by trivial), (by trivial), i + 1, rfl, by omega, g5, ((f2.trans f3 fun _ h => h.elim).trans f4 fun _ h => .inl h).trans f5 fun _ h => .inl h⟩, by omega⟩
theorem F51_spec {k : Value → W} {w : World} {q c n : Nat} {f : Nat → Int × Int} {a m b : Nat} (h : AR w q c n f) (h1 : a ≤ m) (h2 : m ≤ b) (h3 : b ≤ n) (hn : n < 100000)
    (hk : ∀ w', AR w' q c n (rot f a m b) → Fr (fun x => x = q) w w' → k (.tuple #[]) w') : F51 k (some ⟨q, 0, none⟩) n c (a : Nat) (m : Nat) (b : Nat) w := by
  unfold F51
  have e1 : subI .i64 (m : Nat) (a : Nat) = ((m - a : Nat) : Int) := by rw [subI_i64 (by omega) (by omega)]; omega
  have e2 : subI .i64 (b : Nat) (m : Nat) = ((b - m : Nat) : Int) := by rw [subI_i64 (by omega) (by omega)]; omega
  rw [e1, e2]
  refine bind_intro ?_
  by_cases z1 : m - a = 0
  · have : a = m := by omega
    subst this
    rw [rot_none1] at hk
    rw [show (((a - a : Nat) : Int) == 0) = true by simp]
    exact hk w h (Fr.refl _ _)
  rw [show (((m - a : Nat) : Int) == 0) = false by simp; omega]
  simp only [BIf_false]
  by_cases z2 : b - m = 0
  · have : b = m := by omega
    subst this
    rw [rot_none2] at hk
    rw [show (((b - b : Nat) : Int) == 0) = true by simp]
    exact hk w h (Fr.refl _ _)
  rw [show (((b - m : Nat) : Int) == 0) = false by simp; omega]
  simp only [BIf_false]
  have ea : a = m - (m - a) := by omega
  by_cases z3 : m - a = b - m
  · rw [show (((m - a : Nat) : Int) == ((b - m : Nat) : Int)) = true by simp; omega]
    simp only [BIf_true]
    refine F71_call (F71_spec h (by omega) (by omega) hn fun w1 g1 f1 => back0 ?_)
    refine hk w1 ?_ f1
    have : rot f a m b = sw f a m (m - a) := by
      have := rot_eq f (p := m) (i := m - a) (by omega)
      rw [show m - (m - a) = a by omega, show m + (m - a) = b by omega] at this
      exact this
    rw [this]; exact g1
  rw [show (((m - a : Nat) : Int) == ((b - m : Nat) : Int)) = false by simp; omega]
  simp only [BIf_false]
  have e3 : addI .i64 (a : Nat) ((m - a : Nat) : Int) = (m : Nat) := by rw [addI_i64 (by omega) (by omega)]; omega
  rw [e3]
  refine F51_L1_rule (fun up ul uc ii jj pp w' => up = some ⟨q, 0, none⟩ ∧ ul = n ∧ uc = c ∧ pp = (m : Nat) ∧ ∃ (i j : Nat) (g : Nat → Int × Int), ii = i ∧ jj = j ∧ 0 < i ∧ 0 < j ∧ i ≤ m - a ∧ j ≤ b - m ∧ AR w' q c n g ∧ rot g (m - i) m (m + j) = rot f a m b ∧ Fr (fun x => x = q) w w')
    (fun _ _ _ ii jj _ _ => (ii + jj).toNat) ?_ ⟨rfl, rfl, rfl, rfl, m - a, b - m, f, rfl, rfl, by omega, by omega, by omega, by omega, h, by rw [show m - (m - a) = a by omega, show m + (b - m) = b by omega], Fr.refl _ _⟩
  rintro up ul uc ii jj pp w2 ⟨hup, hul, huc, rfl, i, j, g, rfl, rfl, p1, p2, p3, p4, g2, er, f2⟩
  obtain rfl := hup.symm; obtain rfl := hul.symm; obtain rfl := huc.symm
  unfold F51_L1
  have es : subI .i64 (m : Nat) (i : Nat) = ((m - i : Nat) : Int) := by rw [subI_i64 (by omega) (by omega)]; omega
  rw [es]
  by_cases hij : i = j
  · subst hij
    rw [show (((i : Nat) : Int) != ((i : Nat) : Int)) = false by simp]
    simp only [BIf_false]
    refine F71_call (F71_spec g2 (by omega) (by omega) hn fun w3 g3 f3 => back0 ?_)
    refine hk w3 ?_ (f2.trans f3 fun _ h => .inl h)
    rw [← er, rot_eq g (by omega)]; exact g3
  rw [show (((i : Nat) : Int) != ((j : Nat) : Int)) = true by simp; omega]
  simp only [BIf_true]
  by_cases hgt : j < i
  · rw [decide_eq_true (by omega)]
    simp only [BIf_true]
    refine F71_call (F71_spec g2 (by omega) (by omega) hn fun w3 g3 f3 => back0 ?_)
    have en : subI .i64 (i : Nat) (j : Nat) = ((i - j : Nat) : Int) := by rw [subI_i64 (by omega) (by omega)]; omega
    rw [en]
    exact ⟨⟨(by trivial), (by trivial), (by trivial), (by trivial), i - j, j, _, rfl, rfl, by omega, p2, by omega, p4, g3, by rw [← er, rot_more g (by omega) hgt], f2.trans f3 fun _ h => .inl h⟩, by omega⟩
  · rw [decide_eq_false (by omega)]
    simp only [BIf_false]
    have en : subI .i64 (j : Nat) (i : Nat) = ((j - i : Nat) : Int) := by rw [subI_i64 (by omega) (by omega)]; omega
    have ea2 : subI .i64 (addI .i64 (m : Nat) (j : Nat)) (i : Nat) = ((m + j - i : Nat) : Int) := by rw [addI_i64 (by omega) (by omega), subI_i64 (by omega) (by omega)]; omega
    rw [en, ea2]
    refine F71_call (F71_spec g2 (by omega) (by omega) hn fun w3 g3 f3 => back0 ?_)
    exact ⟨⟨(by trivial), (by trivial), (by trivial), (by trivial), i, j - i, _, rfl, rfl, p1, by omega, p3, by omega, g3, by rw [← er, rot_less g (by omega) (by omega)], f2.trans f3 fun _ h => .inl h⟩, by omega⟩

/-! ## The merge -/
theorem F41_all : ∀ (d : Nat) {w : World} {q c n : Nat} {f : Nat → Int × Int} {a m b : Nat} {R : Ending → World → Prop}, b - a ≤ d → AR w q c n f → a ≤ m → m ≤ b → b ≤ n → n < 100000 → Asc key f a m → Asc key f m b →
    (∀ g w', AR w' q c n g → Mix f g a b n → Asc key g a b → Fr (fun x => x = q) w w' → R (.returned (.tuple #[])) w') → Calls Try.prog 41 #[.slice (some ⟨q, 0, none⟩) n c, .int .i64 (a : Nat), .int .i64 (m : Nat), .int .i64 (b : Nat)] w R := by
  intro d
  induction d with
  | zero =>
    intro w q c n f a m b R hd h h1 h2 h3 hn A B hk
    refine F41_calls ?_
    unfold F41
    rw [decide_eq_false (by omega)]
    simp only [BIf_false]
    unfold F41_J1
    simp only [BIf_false]
    exact hk f w h (Mix.refl _ _ _ _) (fun x y g1 g2 g3 => by omega) (Fr.refl _ _)
  | succ d ih =>
    intro w q c n f a m b R hd h h1 h2 h3 hn A B hk
    refine F41_calls ?_
    unfold F41
    by_cases ham : a < m
    rotate_left
    · have : a = m := by omega
      subst this
      rw [decide_eq_false (by omega)]
      simp only [BIf_false]
      unfold F41_J1
      simp only [BIf_false]
      exact hk f w h (Mix.refl _ _ _ _) B (Fr.refl _ _)
    rw [decide_eq_true (by omega)]
    simp only [BIf_true]
    unfold F41_J1
    by_cases hmb : m < b
    rotate_left
    · have : b = m := by omega
      subst this
      rw [decide_eq_false (by omega)]
      simp only [BIf_false]
      exact hk f w h (Mix.refl _ _ _ _) A (Fr.refl _ _)
    rw [decide_eq_true (by omega)]
    simp only [BIf_true]
    refine ⟨by decide, ?_⟩
    have em : quoI .i64 (addI .i64 (a : Nat) (b : Nat)) 2 = (((a + b) / 2 : Nat) : Int) := by
      rw [addI_i64 (by omega) (by omega), quoI_i64 (by omega) (by omega) (by omega)]; omega
    rw [em]
    refine bind_intro ?_
    have hcd : (a + b) / 2 = (a + b) / 2 := rfl
    have hc2 : a < (a + b) / 2 ∧ (a + b) / 2 < b := by omega
    generalize hcc : (a + b) / 2 = cc at *
    have en : addI .i64 (cc : Nat) (m : Nat) = ((cc + m : Nat) : Int) := by rw [addI_i64 (by omega) (by omega)]; simp
    rw [en]
    refine bind_intro ?_
    have e1 : subI .i64 ((cc + m : Nat) : Int) 1 = ((cc + m - 1 : Nat) : Int) := by rw [subI_i64 (by omega) (by omega)]; omega
    -- what follows the search
    have rest : ∀ (lo hi s : Nat) (w1 : World), lo = (if m > cc then cc + m - b else a) → hi = (if m > cc then cc else m) → lo ≤ s → s ≤ hi → (lo < s → key (f (s - 1)) ≤ key (f (cc + m - 1 - (s - 1)))) → (s < hi → key (f (cc + m - 1 - s)) < key (f s)) → Fr (fun _ => False) w w1 →
        F41_J2 (fun v w => R (.returned v) w) (some ⟨q, 0, none⟩) n c (a : Nat) (m : Nat) (b : Nat) (cc : Nat) ((cc + m : Nat) : Int) (s : Nat) w1 := by
      intro lo hi s w1 hlo hhi hs1 hs2 hL hR f1
      obtain ⟨p1, p2, p3, p4, p5, p6, A1, A2, A3, A4, apart⟩ := parts ham A B hcc.symm hlo hhi hs1 hs2 (fun hl => by
        have := hL hl
        rw [show cc + m - 1 - (s - 1) = cc + m - s by
          have : 0 < s := by omega
          omega] at this
        exact this) hR
      unfold F41_J2
      have ee : subI .i64 ((cc + m : Nat) : Int) (s : Nat) = ((cc + m - s : Nat) : Int) := by rw [subI_i64 (by omega) (by omega)]; omega
      rw [ee]
      refine F51_call (F51_spec (h.fr0 f1) p2 p3 (by omega) hn fun w2 h2' f2 => back0 ?_)
      refine ih (R := fun e w' => Back (.tup []) _ e w') (by omega) h2' p1 p5 (by omega) hn A1 A2 fun g1 w3 h3' M1 S1 f3 => back0 ?_
      refine ih (R := fun e w' => Back (.tup []) _ e w') (by omega) h3' p6 p4 h3 hn (A3.of_out M1 (.inr (Nat.le_refl _))) (A4.of_out M1 (.inr p6)) fun g2 w4 h4' M2 S2 f4 => back0 ?_
      have Mr := rot_mix f (a := s) (m := m) (b := cc + m - s) (n := n) p2 p3 (by omega)
      refine hk g2 w4 h4' ((Mr.wide p1 p4).trans ((M1.wide (Nat.le_refl _) (by omega)).trans (M2.wide (by omega) (Nat.le_refl _)))) ?_ ((((f1.mono (S' := fun x => x = q) fun _ h => h.elim).trans f2 fun _ h => .inl h).trans f3 fun _ h => .inl h).trans f4 fun _ h => .inl h)
      refine joined (f := rot f s m (cc + m - s)) (c := cc) (S1.of_out M2 (.inl (Nat.le_refl _))) S2 (fun x g1' g2' => ?_) (fun x g1' g2' => ?_) apart
      · obtain ⟨y, y1, y2, e⟩ := M1.inn x g1' g2'
        exact ⟨y, y1, y2, (M2.out x (by omega)).trans e⟩
      · obtain ⟨y, y1, y2, e⟩ := M2.inn x g1' g2'
        exact ⟨y, y1, y2, e.trans (M1.out y (by omega))⟩
    by_cases hmc : m > cc
    · rw [decide_eq_true (by omega)]
      simp only [BIf_true]
      have e2 : subI .i64 ((cc + m : Nat) : Int) (b : Nat) = ((cc + m - b : Nat) : Int) := by rw [subI_i64 (by omega) (by omega)]; omega
      rw [e1, e2]
      refine F50_call (F50_spec h (by omega) (by omega) (by omega) (by omega) hn fun s w1 g1 g2 gL gR f1 => back_int ?_)
      exact rest _ _ s w1 (by rw [if_pos hmc]) (by rw [if_pos hmc]) g1 g2 gL gR f1
    · rw [decide_eq_false (by omega)]
      simp only [BIf_false]
      rw [e1]
      refine F50_call (F50_spec h (by omega) (by omega) (by omega) (by omega) hn fun s w1 g1 g2 gL gR f1 => back_int ?_)
      exact rest _ _ s w1 (by rw [if_neg hmc]) (by rw [if_neg hmc]) g1 g2 gL gR f1
end Go.Proofs.Ytpjjnckgjohaeaa.E
