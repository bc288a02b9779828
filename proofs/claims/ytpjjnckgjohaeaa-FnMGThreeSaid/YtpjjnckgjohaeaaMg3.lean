/-
  Lists of unlike lengths are cut in parts, each merged by itself; the merge of two lists.
-/
import Derived.Test.YtpjjnckgjohaeaaMg2
namespace Go.Proofs.Ytpjjnckgjohaeaa.E
open Go
set_option linter.unusedSimpArgs false
set_option linter.unusedVariables false
set_option maxRecDepth 100000
set_option maxHeartbeats 4000000

theorem Own.cellE {w : World} {q l c : Nat} {us : List (Int × Int)} (h : Own w 60 (some ⟨q, 0, none⟩) l c (encs us)) {i : Nat} (hi : i < us.length) : w.cell? ⟨q, i, none⟩ = some (enc (fn us i)) := by
  have := h.1
  rw [encs_length] at this
  rw [Own.cell h (by omega), encs_get, fn_get hi]; rfl
theorem blkE {w : World} {q : Nat} {ll : List (Int × Int)} {rest : List Value} (h : Blk w q 60 (encs ll ++ rest)) {i : Nat} (hi : i < ll.length) : w.cell? ⟨q, i, none⟩ = some (enc (fn ll i)) := by
  rw [h.cell, List.getElem?_append_left (by rw [encs_length]; exact hi), encs_get, fn_get hi]; rfl
/-- symSearch: in u from the front, in a stretch of w from the end. -/
theorem F49_spec {k : Value → W} {w : World} {qs qw o lu cu L cm : Nat} {us ll : List (Int × Int)} {rest : List Value} (hu : Own w 60 (some ⟨qs, 0, none⟩) lu cu (encs us)) (hB : Blk w qw 60 (encs ll ++ rest)) (hlu : lu = us.length) (hL : L = us.length) (h0 : 0 < us.length) (ho : o + L ≤ ll.length) (hb : us.length < 100000)
    (hk : ∀ i w', i ≤ L → (0 < i → key (fn us (i - 1)) ≤ key (fn ll (o + L - i))) → (i < L → key (fn ll (o + L - 1 - i)) < key (fn us i)) → Fr (fun _ => False) w w' → k (.int .i64 (i : Nat)) w') :
    F49 k (some ⟨qs, 0, none⟩) lu cu (some ⟨qw, o, none⟩) L cm w := by
  subst hlu; subst hL
  unfold F49
  refine bind_intro ?_
  rw [subI_i64 (by omega) (by omega)]
  refine F49_L1_rule (fun up ul uc wp wl wc a b p w' => up = some ⟨qs, 0, none⟩ ∧ ul = us.length ∧ uc = cu ∧ wp = some ⟨qw, o, none⟩ ∧ wl = us.length ∧ wc = cm ∧ p = (us.length : Nat) - 1 ∧ ∃ i j : Nat, a = i ∧ b = j ∧ i ≤ j ∧ j ≤ us.length ∧ (0 < i → key (fn us (i - 1)) ≤ key (fn ll (o + us.length - i))) ∧ (j < us.length → key (fn ll (o + us.length - 1 - j)) < key (fn us j)) ∧ Fr (fun _ => False) w w')
    (fun _ _ _ _ _ _ a b _ _ => (b - a).toNat) ?_ ⟨rfl, rfl, rfl, rfl, rfl, rfl, rfl, 0, us.length, rfl, rfl, Nat.zero_le _, Nat.le_refl _, fun h => by omega, fun h => by omega, Fr.refl _ _⟩
  rintro up ul uc wp wl wc a b p w2 ⟨hup, hul, huc, hwp, hwl, hwc, rfl, i, j, rfl, rfl, g2, g3, gL, gR, f2⟩
  obtain rfl := hup.symm; obtain rfl := hul.symm; obtain rfl := huc.symm; obtain rfl := hwp.symm; obtain rfl := hwl.symm; obtain rfl := hwc.symm
  unfold F49_L1
  by_cases hlt : i < j
  rotate_left
  · have : i = j := by omega
    subst this
    rw [decide_eq_false (by omega)]
    simp only [BIf_false]
    exact hk i w2 g3 gL gR f2
  rw [decide_eq_true (by omega)]
  simp only [BIf_true]
  refine ⟨by decide, ?_⟩
  have em : quoI .i64 (addI .i64 (i : Nat) (j : Nat)) 2 = (((i + j) / 2 : Nat) : Int) := by
    rw [addI_i64 (by omega) (by omega), quoI_i64 (by omega) (by omega) (by omega)]; omega
  rw [em]
  refine bind_intro ?_
  have hm : i ≤ (i + j) / 2 ∧ (i + j) / 2 < j := by omega
  generalize (i + j) / 2 = m at *
  refine drw_intro fun w3 f3 z3 => ?_
  have f03 := f2.trans f3 fun _ h => h.elim
  have hu3 := hu.fr f03 fun _ _ h => h
  have hB3 := hB.fr f03 id
  have es : subI .i64 ((us.length : Nat) - 1) (m : Nat) = ((us.length - 1 - m : Nat) : Int) := by rw [subI_i64 (by omega) (by omega)]; omega
  simp only [es, NN_mk, Req_iff, LoadT_any, Int.toNat_natCast, add_mk, Nat.zero_add]
  refine ⟨by omega, _, hu3.cellE (by omega), by omega, _, blkE hB3 (i := o + (us.length - 1 - m)) (by omega), rfl, cmp_intro fun r w4 hr f4 => ?_⟩
  refine ⟨(hu3.fr f4 fun _ _ h => h).cellE (by omega), ?_⟩
  have f04 := f03.trans f4 fun _ h => h.elim
  by_cases hle : r ≤ 0
  · rw [decide_eq_true hle]
    simp only [BIf_true]
    rw [add_one (by omega)]
    exact ⟨⟨(by trivial), (by trivial), (by trivial), (by trivial), (by trivial), (by trivial), (by trivial), m + 1, j, rfl, rfl, by omega, g3, fun _ => by rw [show m + 1 - 1 = m by omega, show o + us.length - (m + 1) = o + (us.length - 1 - m) by omega]; exact hr.1 hle, gR, f04⟩, by omega⟩
  · rw [decide_eq_false hle]
    simp only [BIf_false]
    refine ⟨⟨(by trivial), (by trivial), (by trivial), (by trivial), (by trivial), (by trivial), (by trivial), i, m, rfl, rfl, by omega, by omega, gL, fun _ => ?_, f04⟩, by omega⟩
    have : ¬ key (fn us m) ≤ key (fn ll (o + (us.length - 1 - m))) := fun h => hle (hr.2 h)
    rw [show o + us.length - 1 - m = o + (us.length - 1 - m) by omega]
    omega
theorem NextT_mono {P : Program} {s : Sem Next} {k : IntKind} {f g : Int → W} {w : World} (h : NextT P s (.s (.one (.int k))) f w) (hm : ∀ x w', f x w' → g x w') : NextT P s (.s (.one (.int k))) g w := by
  unfold NextT at h ⊢
  split at h
  · obtain ⟨d, h1, h2⟩ := h; exact ⟨d, h1, hm _ _ h2⟩
  · exact h.mono fun e w' ⟨d, h1, h2⟩ => ⟨d, h1, hm _ _ h2⟩
  · exact h.elim
theorem back_three {f : Option Addr → Nat → Nat → Option Addr → Nat → Nat → Option Addr → Nat → Nat → W} {p1 p2 p3 : Option Addr} {l1 c1 l2 c2 l3 c3 : Nat} {w : World} (h : f p1 l1 c1 p2 l2 c2 p3 l3 c3 w) :
    Back (.tup [(.one .slice), (.one .slice), (.one .slice)]) f (.returned (.tuple #[.slice p1 l1 c1, .slice p2 l2 c2, .slice p3 l3 c3])) w := ⟨((p1, l1, c1), (p2, l2, c2), (p3, l3, c3), ()), rfl, h⟩
theorem back_four {f : Option Addr → Nat → Nat → Option Addr → Nat → Nat → Option Addr → Nat → Nat → Option Addr → Nat → Nat → W} {p1 p2 p3 p4 : Option Addr} {l1 c1 l2 c2 l3 c3 l4 c4 : Nat} {w : World} (h : f p1 l1 c1 p2 l2 c2 p3 l3 c3 p4 l4 c4 w) :
    Back (.tup [(.one .slice), (.one .slice), (.one .slice), (.one .slice)]) f (.returned (.tuple #[.slice p1 l1 c1, .slice p2 l2 c2, .slice p3 l3 c3, .slice p4 l4 c4])) w := ⟨((p1, l1, c1), (p2, l2, c2), (p3, l3, c3), (p4, l4, c4), ()), rfl, h⟩
theorem F48_spec {k : Value → W} {w : World} {q l c L : Nat} (h : L + 2 ≤ l) (hl : l ≤ c) (hc : l < 100000)
    (hk : k (.tuple #[.slice (some ⟨q, 0, none⟩) ((l - L) / 2) c, .slice (some ⟨q, (l - L) / 2, none⟩) L (c - (l - L) / 2), .slice (some ⟨q, (l - L) / 2 + L, none⟩) (l - ((l - L) / 2 + L)) (c - ((l - L) / 2 + L))]) w) : F48 k (L : Nat) (some ⟨q, 0, none⟩) l c w := by
  unfold F48
  rw [decide_eq_false (by omega)]
  simp only [BIf_false]
  refine ⟨by decide, ?_⟩
  have em : quoI .i64 (subI .i64 (l : Nat) (L : Nat)) 2 = (((l - L) / 2 : Nat) : Int) := by
    rw [subI_i64 (by omega) (by omega), quoI_i64 (by omega) (by omega) (by omega)]; omega
  rw [em]
  refine bind_intro ?_
  have ho : (l - L) / 2 + L + 1 ≤ l := by omega
  generalize (l - L) / 2 = o at *
  have ea : addI .i64 (o : Nat) (L : Nat) = ((o + L : Nat) : Int) := by rw [addI_i64 (by omega) (by omega)]; simp
  simp only [ea, Req_iff, Int.toNat_natCast, sliceA]
  refine ⟨by omega, by omega, by omega, by omega, ?_⟩
  rw [if_neg (show ¬ c = o by omega), if_neg (show ¬ c = o + L by omega)]
  rw [show (if c = 0 then some (⟨q, 0, none⟩ : Addr) else (some (⟨q, 0, none⟩ : Addr)).map (·.add (0 * 1))) = some ⟨q, 0, none⟩ by split <;> simp [Addr.add]]
  simp only [Option.map_some, add_mk, Nat.zero_add, Nat.mul_one, Nat.sub_zero]
  rw [show o + L - o = L by omega]
  exact hk
/-- What is cut out: a first part of the short list with a first part of the long one, and what is left of both. -/
theorem F40_J1_spec {k : Value → W} {w : World} {qs qw ls cs lw cw : Nat} {ss ll : List (Int × Int)} (hs : Own w 60 (some ⟨qs, 0, none⟩) ls cs (encs ss)) (hw : Own w 60 (some ⟨qw, 0, none⟩) lw cw (encs ll)) (hls : ls = ss.length) (hlw : lw = ll.length) (h0 : 0 < ss.length) (hd : ss.length + 2 ≤ ll.length) (hb : ll.length < 100000) (hne : qs ≠ qw)
    (hk : ∀ i o rest p7 p9 w', o = (ll.length - ss.length) / 2 → i ≤ ss.length → (0 < i → key (fn ss (i - 1)) ≤ key (fn ll (o + ss.length - i))) → (i < ss.length → key (fn ll (o + ss.length - 1 - i)) < key (fn ss i)) →
      Own w' 60 p7 i i (encs (ss.take i)) → Own w' 60 p9 (ss.length - i) (ss.length - i) (encs (ss.drop i)) → Blk w' qw 60 (encs ll ++ rest) → (∀ b, bl p7 b → w.heap.size ≤ b) → (∀ b, bl p9 b → w.heap.size ≤ b ∧ ¬ bl p7 b) → Fr (fun b => b = qw) w w' → ∀ cc dd,
      k (.tuple #[.slice p7 i i, .slice (some ⟨qw, 0, none⟩) (o + (ss.length - i)) cc, .slice p9 (ss.length - i) (ss.length - i), .slice (some ⟨qw, o + (ss.length - i), none⟩) (ll.length - (o + (ss.length - i))) dd]) w') :
    F40_J1 k (some ⟨qs, 0, none⟩) ls cs (some ⟨qw, 0, none⟩) lw cw w := by
  subst hls; subst hlw
  obtain ⟨q', rest, hq', hB, hcap, hmax⟩ := hw.get (by omega)
  cases hq'
  rw [List.length_append, encs_length] at hcap
  unfold F40_J1
  refine F48_call (F48_spec (by omega) (by omega) hb (back_three ?_))
  have ho : (ll.length - ss.length) / 2 + ss.length + 1 ≤ ll.length := by omega
  have hk := hk (o := (ll.length - ss.length) / 2) (rest := rest)
  generalize hoo : (ll.length - ss.length) / 2 = o at *
  refine F49_call (F49_spec hs hB rfl rfl h0 (by omega) (by omega) fun i w1 hi gL gR f1 => back_int ?_)
  have hs1 := hs.fr f1 fun _ _ h => h
  have hB1 := hB.fr f1 id
  obtain ⟨ii, hi1, hi2, hi3, hi4⟩ := inf60
  refine make_intro (P := Try.prog) i i und55 hi1 hi2 hi3 rfl (by omega) (by omega) (Nat.le_refl _) fun w2 f2 o2 b2 z2 => ?_
  have hs2 := hs1.fr f2 fun _ _ h => h
  have hB2 := hB1.fr f2 id
  have hcs : ss.length ≤ cs := by
    obtain ⟨_, rest', _, _, h, _⟩ := hs.get h0
    rw [List.length_append, encs_length] at h; omega
  refine ⟨⟨by omega, by omega⟩, ?_⟩
  have hqs : qs < w1.heap.size := by have := hs1.lt (b := qs) ⟨_, rfl, rfl⟩; exact this
  have hqw : qw < w1.heap.size := hB1.lt
  simp only [Int.toNat_natCast, Nat.sub_zero, sliceA]
  rw [show (if cs = 0 then some (⟨qs, 0, none⟩ : Addr) else (some (⟨qs, 0, none⟩ : Addr)).map (·.add (0 * 1))) = some ⟨qs, 0, none⟩ by split <;> simp [Addr.add]]
  refine copy_intro (P := Try.prog) und55 size60 b2 (src := encs (ss.take i)) (by rw [encs_length]; simp; omega) ?_ (by rw [encs_length]; simp; omega) (encs_one _) fun w3 b3 f3 z3 => ?_
  · intro j v hj
    rw [encs_get, List.getElem?_take] at hj
    by_cases hji : j < i
    · rw [if_pos hji, fn_get (by omega)] at hj
      rw [add_mk, Nat.zero_add, hs2.cellE (by omega)]; exact hj
    · rw [if_neg hji] at hj; cases hj
  have e3 : (List.replicate i Value.nilIface).take 0 ++ encs (ss.take i) ++ (List.replicate i Value.nilIface).drop (0 + (encs (ss.take i)).length) = encs (ss.take i) := by
    rw [List.take_zero, List.nil_append, List.drop_eq_nil_of_le (by rw [encs_length]; simp; omega), List.append_nil]
  rw [e3] at b3
  have hs3 := hs2.fr f3 fun b ⟨a, h, e⟩ g => by cases h; have : qs = w1.heap.size := e.trans g; omega
  have hB3 := hB2.fr f3 (by omega)
  have o3 : Own w3 60 (some ⟨w1.heap.size, 0, none⟩) i i (encs (ss.take i)) := ⟨by rw [encs_length]; simp; omega, .inr ⟨_, [], rfl, by rw [List.append_nil]; exact b3, by rw [List.append_nil, encs_length]; simp; omega, by simp only [maxLen]; omega⟩⟩
  have es : subI .i64 ((ss.length : Nat) : Int) (i : Nat) = ((ss.length - i : Nat) : Int) := by rw [subI_i64 (by omega) (by omega)]; omega
  simp only [es, Int.toNat_natCast]
  refine ⟨⟨by omega, by omega⟩, ?_⟩
  rw [show (if cw - o = 0 then some (⟨qw, o, none⟩ : Addr) else (some (⟨qw, o, none⟩ : Addr)).map (·.add (0 * 1))) = some ⟨qw, o, none⟩ by split <;> simp [Addr.add]]
  have hlen : (encs ll ++ rest).length = ll.length + rest.length := by rw [List.length_append, encs_length]
  have rd : ∀ {w : World} {a n : Nat}, Blk w qw 60 (encs ll ++ rest) → ∀ j u, ((encs ll ++ rest).drop a |>.take n)[j]? = some u → w.cell? ((⟨qw, a, none⟩ : Addr).add j) = some u := by
    intro w a n hB j u hj
    rw [List.getElem?_take] at hj
    split at hj
    · rw [List.getElem?_drop] at hj
      rw [add_mk, hB.cell]; exact hj
    · cases hj
  have on : ∀ {a n : Nat}, a + n ≤ ll.length → ∀ u ∈ ((encs ll ++ rest).drop a).take n, u.oneCell' = true := by
    intro a n han u hu
    obtain ⟨j, hj⟩ := List.getElem?_of_mem hu
    rw [List.getElem?_take] at hj
    split at hj
    · rw [List.getElem?_drop, List.getElem?_append_left (by rw [encs_length]; omega)] at hj
      exact encs_one ll u (List.mem_of_getElem? hj)
    · cases hj
  refine append_room (P := Try.prog) und55 hi1 hi3 hB3 (news := ((encs ll ++ rest).drop o).take (ss.length - i)) (by rw [List.length_take, List.length_drop, hlen]; omega) (rd hB3) (on (by omega)) (by omega) (by rw [hlen]; omega) fun w4 b4 f4 => ?_
  have same : ∀ {a n : Nat}, (encs ll ++ rest).take a ++ ((encs ll ++ rest).drop a).take n ++ (encs ll ++ rest).drop (a + n) = encs ll ++ rest := by
    intro a n
    rw [List.append_assoc, ← List.drop_drop, List.take_append_drop, List.take_append_drop]
  rw [Nat.zero_add, same] at b4
  have o4 := o3.fr f4 fun b ⟨a, h, e⟩ g => by cases h; have : w1.heap.size = qw := e.trans g; omega
  have hs4 := hs3.fr f4 fun b ⟨a, h, e⟩ g => by cases h; exact hne (e.trans g)
  refine make_intro (P := Try.prog) (ss.length - i) (ss.length - i) und55 hi1 hi2 hi3 rfl (by omega) (by omega) (Nat.le_refl _) fun w5 f5 o5 b5 z5 => ?_
  have o45 := o4.fr f5 fun _ _ h => h
  have hs5 := hs4.fr f5 fun _ _ h => h
  have hB5 := b4.fr f5 id
  refine ⟨⟨by omega, by omega⟩, ?_⟩
  have f14 : w1.heap.size < w4.heap.size := by have h1 := f2.size; have h2 := f3.size; have h3 := f4.size; omega
  -- the second part of the short list
  have copy2 : NextT Try.prog (builtin .copy #[56, 56] 3 [false, false].toArray [.slice (some ⟨w4.heap.size, 0, none⟩) (ss.length - i) (ss.length - i), .slice (if cs = i then some (⟨qs, 0, none⟩ : Addr) else (some (⟨qs, 0, none⟩ : Addr)).map (·.add (i * 1))) (ss.length - i) (cs - i)].toArray) (.s (.one (.int .i64)))
      (fun _ => fun w6 => Own w6 60 (some ⟨w4.heap.size, 0, none⟩) (ss.length - i) (ss.length - i) (encs (ss.drop i)) ∧ Fr (fun b => b = w4.heap.size) w5 w6) w5 := by
    by_cases hci : cs = i
    · have hz : ss.length - i = 0 := by omega
      have hdr : ss.drop i = [] := List.drop_eq_nil_of_le (by omega)
      rw [hz, hdr]
      refine copy_none (P := Try.prog) und55 size60 (by simp) ?_
      refine ⟨⟨rfl, .inr ⟨_, [], rfl, ?_, rfl, by decide⟩⟩, Fr.refl _ _⟩
      have := b5; rw [hz] at this; exact this
    · rw [if_neg hci]
      refine copy_intro (P := Try.prog) und55 size60 b5 (src := encs (ss.drop i)) (by rw [encs_length]; simp) ?_ (by rw [encs_length]; simp) (encs_one _) fun w6 b6 f6 z6 => ?_
      · intro j v hj
        rw [encs_get, List.getElem?_drop] at hj
        by_cases hji : i + j < ss.length
        · rw [fn_get hji] at hj
          simp only [add_mk, Nat.zero_add, Nat.mul_one]
          rw [hs5.cellE hji]; exact hj
        · rw [List.getElem?_eq_none (by omega)] at hj; cases hj
      · have e6 : (List.replicate (ss.length - i) Value.nilIface).take 0 ++ encs (ss.drop i) ++ (List.replicate (ss.length - i) Value.nilIface).drop (0 + (encs (ss.drop i)).length) = encs (ss.drop i) := by
          have hz : (List.replicate (ss.length - i) Value.nilIface).drop (0 + (encs (ss.drop i)).length) = [] := List.drop_eq_nil_of_le (by rw [encs_length]; simp)
          rw [List.take_zero, List.nil_append, hz, List.append_nil]
        rw [e6] at b6
        exact ⟨⟨by rw [encs_length]; simp, .inr ⟨_, [], rfl, by rw [List.append_nil]; exact b6, by rw [List.append_nil, encs_length]; simp, by simp only [maxLen]; omega⟩⟩, f6⟩
  refine NextT_mono copy2 fun x w6 ⟨o6, f6⟩ => ?_
  refine ⟨⟨by omega, by omega⟩, ?_⟩
  rw [if_neg (show ¬ cw - o = ss.length - i by omega)]
  simp only [Option.map_some, add_mk, Nat.mul_one]
  have hB6 := hB5.fr f6 (by omega)
  refine append_room (P := Try.prog) und55 hi1 hi3 hB6 (news := ((encs ll ++ rest).drop (o + ss.length)).take (ll.length - (o + ss.length))) (by rw [List.length_take, List.length_drop, hlen]; omega) (rd hB6) (on (by omega)) (by omega) (by rw [hlen]; omega) fun w7 b7 f7 => ?_
  rw [show o + (ss.length - i) + (ss.length - (ss.length - i)) = o + ss.length by omega, same] at b7
  have o7 := ((o45.fr f6 fun b ⟨a, h, e⟩ g => by cases h; have : w1.heap.size = w4.heap.size := e.trans g; omega)).fr f7 fun b ⟨a, h, e⟩ g => by cases h; have : w1.heap.size = qw := e.trans g; omega
  have o67 := o6.fr f7 fun b ⟨a, h, e⟩ g => by cases h; have : w4.heap.size = qw := e.trans g; omega
  have F : Fr (fun b => b = qw) w w7 := by
    have g12 := (f1.trans f2 fun _ h => h.elim).mono (S' := fun b => b = qw) fun _ h => h.elim
    have g13 := g12.trans f3 fun b e => .inr (by have := f1.size; have : b = w1.heap.size := e; omega)
    have g14 := g13.trans f4 fun b e => .inl e
    have g15 := g14.trans f5 fun _ h => h.elim
    have g16 := g15.trans f6 fun b e => .inr (by have := g14.size; have : b = w4.heap.size := e; omega)
    exact g16.trans f7 fun b e => .inl e
  have := hk i (some ⟨w1.heap.size, 0, none⟩) (some ⟨w4.heap.size, 0, none⟩) w7 rfl hi gL gR o7 o67 b7 (fun b ⟨a, h, e⟩ => by cases h; have : w1.heap.size = b := e; have := f1.size; omega) (fun b ⟨a, h, e⟩ => ⟨by cases h; have : w4.heap.size = b := e; have := f1.size; omega, fun ⟨a', h', e'⟩ => by cases h; cases h'; have h3 : w4.heap.size = b := e; have h4 : w1.heap.size = b := e'; omega⟩) F
  have := this cw (cw - o - (ss.length - i))
  rw [show ll.length - (o + (ss.length - i)) = ss.length - (ss.length - i) + (ll.length - (o + ss.length)) by omega] at this
  exact this
end Go.Proofs.Ytpjjnckgjohaeaa.E
