/-
  Caches: the plain laws.
-/
import Derived.Test.YtmaejciimpnogaaDoorCaV
namespace Go.Proofs.YtmaejciimpnogaaDoor.E
open Go
set_option linter.unusedSimpArgs false
set_option linter.unusedVariables false
set_option maxRecDepth 100000
set_option maxHeartbeats 4000000

/-! ## All sizes so many times as great -/
def scC (n : Nat) (s : CS) : CS := if s.op = 1 then { s with sz := s.sz * ((n : Nat) : Int) } else s
def scT (n : Nat) (i : Cit) : Cit := ⟨i.k, i.sz * n, i.tag⟩
def scL (n : Nat) (L : List Cit) : List Cit := L.map (scT n)
theorem tot_sc (n : Nat) : ∀ L : List Cit, tot (scL n L) = tot L * n
  | [] => by simp [scL]
  | x :: L => by
    show tot (scT n x :: scL n L) = _
    rw [tot_cons, tot_sc n L, tot_cons, Nat.add_mul]; rfl
theorem rem_sc (n : Nat) (k : ByteArray) (L : List Cit) : rem k (scL n L) = scL n (rem k L) := by
  unfold rem scL
  rw [List.filter_map]; rfl
theorem evi_sc {n : Nat} (hn : 0 < n) : ∀ (L : List Cit) (r : Nat), evi (r * n) (scL n L) = scL n (evi r L)
  | [], r => rfl
  | x :: L, r => by
    show (if x.sz * n ≤ r * n then scT n x :: evi (r * n - x.sz * n) (scL n L) else []) = scL n (if x.sz ≤ r then x :: evi (r - x.sz) L else [])
    by_cases h : x.sz ≤ r
    · rw [if_pos h, if_pos (Nat.mul_le_mul_right n h), ← Nat.sub_mul, evi_sc hn L]; rfl
    · rw [if_neg h, if_neg fun h' => h (Nat.le_of_mul_le_mul_right h' hn)]; rfl
theorem look_sc (n : Nat) (k : ByteArray) (L : List Cit) : look k (scL n L) = (look k L).map (scT n) := by
  unfold look scL
  rw [List.find?_map]; rfl
theorem touch_sc (n : Nat) (lru : Bool) (k : ByteArray) (L : List Cit) : touch lru (scL n L) k = scL n (touch lru L k) := by
  unfold touch
  cases lru with
  | false => rfl
  | true =>
    simp only [if_true]
    rw [look_sc]
    cases look k L with
    | none => rfl
    | some i => show scT n i :: rem k (scL n L) = _; rw [rem_sc]; rfl
theorem touches_sc (n : Nat) (lru : Bool) : ∀ (ks : List ByteArray) (L : List Cit), touches lru ks (scL n L) = scL n (touches lru ks L)
  | [], L => rfl
  | k :: ks, L => by show touches lru ks (touch lru (scL n L) k) = _; rw [touch_sc, touches_sc n lru ks]; rfl
theorem gets_sc (n : Nat) (lru : Bool) : ∀ (ks : List ByteArray) (L : List Cit), gets lru ks (scL n L) = (gets lru ks L).map (Option.map (scT n))
  | [], L => rfl
  | k :: ks, L => by show look k (scL n L) :: gets lru ks (touch lru (scL n L) k) = _; rw [look_sc, touch_sc, gets_sc n lru ks]; rfl
theorem rems_sc (n : Nat) : ∀ (ks : List ByteArray) (L : List Cit), rems ks (scL n L) = scL n (rems ks L)
  | [], L => rfl
  | k :: ks, L => by show rems ks (rem k (scL n L)) = _; rw [rem_sc, rems_sc n ks]; rfl
theorem itm_sc (n : Nat) (v : Option Cit) : itm (v.map (scT n)) = scI n (itm v) := by
  cases v with
  | none => simp [itm, scI]
  | some i => simp [itm, scI, scT]
theorem toNat_sc {x : Int} {n : Nat} (hx : 0 ≤ x) : (x * ((n : Nat) : Int)).toNat = x.toNat * n := by
  obtain ⟨a, rfl⟩ := Int.eq_ofNat_of_zero_le hx
  rw [← Int.natCast_mul, Int.toNat_natCast, Int.toNat_natCast]
theorem sc_op (n : Nat) (s : CS) : (scC n s).op = s.op ∧ (scC n s).keys = s.keys ∧ (scC n s).key = s.key := by
  unfold scC; split <;> exact ⟨rfl, rfl, rfl⟩
theorem step_sc {n : Nat} (hn : 0 < n) (lru : Bool) {C : Nat} (L : List Cit) {s : CS} (hs : OkC C s) : stepC lru (C * n) (scL n L) (scC n s) = scL n (stepC lru C L s) := by
  unfold stepC
  rw [(sc_op n s).1, (sc_op n s).2.1]
  by_cases h1 : s.op = 1
  · rw [if_pos h1, if_pos h1]
    have hz : 0 ≤ s.sz := by rcases hs.1 with ⟨_, _, h, _⟩ | h | h <;> omega
    have e : scC n s = { s with sz := s.sz * ((n : Nat) : Int) } := by unfold scC; rw [if_pos h1]
    rw [e]
    show putI (C * n) ⟨kst s.key, (s.sz * ((n : Nat) : Int)).toNat, s.tag⟩ (scL n L) = _
    rw [toNat_sc hz]
    unfold putI
    show (⟨kst s.key, s.sz.toNat * n, s.tag⟩ : Cit) :: evi (C * n - s.sz.toNat * n) (rem (kst s.key) (scL n L)) = _
    rw [rem_sc, ← Nat.sub_mul, evi_sc hn]; rfl
  · rw [if_neg h1, if_neg h1]
    by_cases h2 : s.op = 2
    · rw [if_pos h2, if_pos h2, touches_sc]
    · rw [if_neg h2, if_neg h2]
      by_cases h3 : s.op = 3
      · rw [if_pos h3, if_pos h3, rems_sc]
      · rw [if_neg h3, if_neg h3]
theorem say_sc {n : Nat} (hn : 0 < n) (lru : Bool) {C : Nat} (L : List Cit) {s : CS} (hs : OkC C s) : sayC lru (C * n) (scL n L) (scC n s) = scS n (sayC lru C L s) := by
  unfold sayC
  rw [(sc_op n s).1, (sc_op n s).2.1, step_sc hn lru L hs, tot_sc]
  by_cases h2 : s.op = 2
  · rw [if_pos h2, if_pos h2, gets_sc]
    unfold scS
    simp only [List.map_map]
    congr 1
    · exact List.map_congr_left fun v _ => itm_sc n v
    · exact List.map_congr_left fun v _ => by cases v <;> rfl
  · rw [if_neg h2, if_neg h2]; rfl
theorem ans_sc {n : Nat} (hn : 0 < n) (lru : Bool) {C : Nat} : ∀ (ss : List CS) (L : List Cit), (∀ s ∈ ss, OkC C s) → ansC lru (C * n) (scL n L) (ss.map (scC n)) = (ansC lru C L ss).map (scS n)
  | [], L, _ => rfl
  | s :: ss, L, h => by
    show sayC lru (C * n) (scL n L) (scC n s) :: ansC lru (C * n) (stepC lru (C * n) (scL n L) (scC n s)) (ss.map (scC n)) = _
    rw [say_sc hn lru L (h s (by simp)), step_sc hn lru L (h s (by simp)), ans_sc hn lru ss _ fun x hx => h x (List.mem_cons_of_mem _ hx)]; rfl
theorem okC_sc {n C : Nat} (hn : 0 < n) {s : CS} (h : OkC C s) : OkC (C * n) (scC n s) := by
  obtain ⟨h1, h2, h3⟩ := h
  refine ⟨?_, by rw [(sc_op n s).2.1]; exact h2, by rw [(sc_op n s).2.1]; exact h3⟩
  rw [(sc_op n s).1, (sc_op n s).2.2]
  rcases h1 with ⟨a, b, c, d⟩ | h | h
  · have e : (scC n s).sz = s.sz * ((n : Nat) : Int) := by unfold scC; rw [if_pos a]
    refine .inl ⟨a, b, ?_, ?_⟩
    · rw [e]
      have : 1 * 1 ≤ s.sz * ((n : Nat) : Int) := Int.mul_le_mul c (by omega) (by omega) (by omega)
      omega
    · rw [e, Int.natCast_mul]
      exact Int.mul_le_mul_of_nonneg_right d (by omega)
  · exact .inr (.inl h)
  · exact .inr (.inr h)
/-! ## Answers are small -/
theorem touch_mem {lru : Bool} {L : List Cit} {k : ByteArray} {i : Cit} (h : i ∈ touch lru L k) : i ∈ L := by
  unfold touch at h
  cases lru with
  | false => exact h
  | true =>
    simp only [if_true] at h
    cases hl : look k L with
    | none => rw [hl] at h; exact h
    | some x =>
      rw [hl] at h
      rcases List.mem_cons.1 h with rfl | h
      · exact List.mem_of_find?_eq_some hl
      · exact (rem_sub _ _).subset h
theorem gets_mem {lru : Bool} : ∀ {ks : List ByteArray} {L : List Cit} {i : Cit}, some i ∈ gets lru ks L → i ∈ L
  | [], _, _, h => by cases h
  | k :: ks, L, i, h => by
    rcases List.mem_cons.1 h with h | h
    · exact List.mem_of_find?_eq_some h.symm
    · exact touch_mem (gets_mem h)
theorem touches_nd {lru : Bool} {C : Nat} : ∀ (ks : List ByteArray) {L : List Cit}, OkT C L → (L.map Cit.k).Nodup → ((touches lru ks L).map Cit.k).Nodup
  | [], L, _, hn => hn
  | k :: ks, L, h, hn => by
    obtain ⟨h1, h2⟩ := touch_tot (lru := lru) (k := k) C h hn
    exact touches_nd ks h1 h2
theorem step_ok {lru : Bool} {C : Nat} {L : List Cit} {s : CS} (hs : OkC C s) (h : OkT C L) (hn : (L.map Cit.k).Nodup) : OkT C (stepC lru C L s) ∧ ((stepC lru C L s).map Cit.k).Nodup := by
  unfold stepC
  rcases hs.1 with ⟨a, b, c, d⟩ | h2 | h3
  · rw [if_pos a]
    refine ⟨put_ok h (show 0 < s.sz.toNat by omega) (show s.sz.toNat ≤ C by omega), ?_⟩
    unfold putI
    rw [List.map_cons]
    have hsub : List.Sublist (evi (C - s.sz.toNat) (rem (kst s.key) L)) (rem (kst s.key) L) := (ev_pre _ _).sublist
    refine List.nodup_cons.2 ⟨fun hm => ?_, hn.sublist ((hsub.trans (rem_sub _ _)).map _)⟩
    obtain ⟨i, hi, e⟩ := List.mem_map.1 hm
    have := (List.mem_filter.1 (hsub.subset hi)).2
    exact absurd e (by simpa using this)
  · rw [if_neg (by omega), if_pos h2]
    exact ⟨touches_ok _ h hn, touches_nd _ h hn⟩
  · rw [if_neg (by omega), if_neg (by omega), if_pos h3]
    exact ⟨h.sub (rems_sub _ _), hn.sublist ((rems_sub _ _).map _)⟩
theorem say_small {lru : Bool} {C : Nat} {L : List Cit} {s : CS} (hs : OkC C s) (h : OkT C L) (hn : (L.map Cit.k).Nodup) : SmS (sayC lru C L s) := by
  have h1 := (step_ok (lru := lru) hs h hn).1
  have := h1.t
  have hc := h.c
  have hk := hs.2.1
  unfold sayC
  by_cases h2 : s.op = 2
  · rw [if_pos h2]
    have hl := gets_len lru (s.keys.map kst) L
    rw [List.length_map] at hl
    refine ⟨fun x hx => ?_, by show List.length (List.map _ _) < _; rw [List.length_map, hl]; omega, by show List.length (List.map _ _) < _; rw [List.length_map, hl]; omega, by show tot _ < _; omega⟩
    obtain ⟨v, hv, rfl⟩ := List.mem_map.1 hx
    cases v with
    | none => exact ⟨by decide, by decide⟩
    | some i =>
      have := (h.s i (gets_mem hv)).2
      exact ⟨by show (0 : Int) ≤ ((i.sz : Nat) : Int); omega, by show ((i.sz : Nat) : Int) < 100000; omega⟩
  · rw [if_neg h2]
    exact ⟨fun x hx => (by cases hx), (show 0 < 1000 by omega), (show 0 < 1000 by omega), (show tot (stepC lru C L s) < 100000 by omega)⟩
theorem ans_small {lru : Bool} {C : Nat} : ∀ (ss : List CS) (L : List Cit), (∀ s ∈ ss, OkC C s) → OkT C L → (L.map Cit.k).Nodup → ∀ x ∈ ansC lru C L ss, SmS x
  | [], _, _, _, _, x, hx => by cases hx
  | s :: ss, L, hs, h, hn, x, hx => by
    rcases List.mem_cons.1 hx with rfl | hx
    · exact say_small (hs s (by simp)) h hn
    · obtain ⟨h1, h2⟩ := step_ok (lru := lru) (hs s (by simp)) h hn
      exact ans_small ss _ (fun y hy => hs y (List.mem_cons_of_mem _ hy)) h1 h2 x hx
theorem OkT.nil {C : Nat} (h : C < 1000) : OkT C [] := ⟨h, fun i hi => (by cases hi), Nat.zero_le _⟩
/-! ## Put, removed, put again -/
def rmS (k : Int) : CS := ⟨3, 0, 0, 0, [k]⟩
def agS (s : CS) : List CS := if s.op = 1 then [s, rmS s.key, s] else [s]
def ags (ss : List CS) : List CS := ss.flatMap agS
theorem ansC_app (lru : Bool) (C : Nat) : ∀ (a b : List CS) (L : List Cit), ansC lru C L (a ++ b) = ansC lru C L a ++ ansC lru C (runC lru C L a) b
  | [], b, L => rfl
  | s :: a, b, L => by show _ :: ansC lru C _ (a ++ b) = _ :: _; rw [ansC_app lru C a b]; rfl
theorem runC_app (lru : Bool) (C : Nat) (a b : List CS) (L : List Cit) : runC lru C L (a ++ b) = runC lru C (runC lru C L a) b := List.foldl_append ..
theorem ag_step {lru : Bool} {C : Nat} {L : List Cit} {s : CS} (hs : OkC C s) : runC lru C L (agS s) = stepC lru C L s ∧ ∃ pre, ansC lru C L (agS s) = pre ++ [sayC lru C L s] ∧ pre.length + 1 = (agS s).length := by
  unfold agS
  by_cases h1 : s.op = 1
  · rw [if_pos h1]
    have hz : s.sz.toNat ≤ C := by rcases hs.1 with ⟨_, _, _, h⟩ | h | h <;> omega
    have e1 : ∀ M, stepC lru C M s = putI C ⟨kst s.key, s.sz.toNat, s.tag⟩ M := fun M => by unfold stepC; rw [if_pos h1]
    have hr : stepC lru C (stepC lru C L s) (rmS s.key) = evi (C - s.sz.toNat) (rem (kst s.key) L) := by
      rw [e1]
      show rem (kst s.key) (⟨kst s.key, s.sz.toNat, s.tag⟩ :: evi (C - s.sz.toNat) (rem (kst s.key) L)) = _
      unfold rem
      rw [List.filter_cons_of_neg (by simp), List.filter_eq_self]
      intro i hi
      have := (ev_pre _ _).subset hi
      exact (List.mem_filter.1 this).2
    have e2 : stepC lru C (stepC lru C (stepC lru C L s) (rmS s.key)) s = stepC lru C L s := by
      rw [hr, e1, e1]
      have ht := ev_tot (rem (kst s.key) L) (C - s.sz.toNat)
      have hself : rem (kst s.key) (evi (C - s.sz.toNat) (rem (kst s.key) L)) = evi (C - s.sz.toNat) (rem (kst s.key) L) := by
        generalize hM : rem (kst s.key) L = M
        unfold rem
        rw [List.filter_eq_self]
        intro i hi
        have := (ev_pre _ _).subset hi
        rw [← hM] at this
        exact (List.mem_filter.1 this).2
      unfold putI
      show _ :: evi (C - s.sz.toNat) (rem (kst s.key) (evi (C - s.sz.toNat) (rem (kst s.key) L))) = _ :: evi (C - s.sz.toNat) (rem (kst s.key) L)
      rw [hself, ev_all _ _ ht]
    refine ⟨e2, [sayC lru C L s, sayC lru C (stepC lru C L s) (rmS s.key)], ?_, rfl⟩
    show [sayC lru C L s, sayC lru C (stepC lru C L s) (rmS s.key), sayC lru C (stepC lru C (stepC lru C L s) (rmS s.key)) s] = _
    have : sayC lru C (stepC lru C (stepC lru C L s) (rmS s.key)) s = sayC lru C L s := by
      unfold sayC; rw [if_neg (by omega), if_neg (by omega), e2]
    rw [this]; rfl
  · rw [if_neg h1]
    exact ⟨rfl, [], rfl, rfl⟩
theorem ags_run {lru : Bool} {C : Nat} : ∀ (ss : List CS) (L : List Cit), (∀ s ∈ ss, OkC C s) → runC lru C L (ags ss) = runC lru C L ss
  | [], L, _ => rfl
  | s :: ss, L, h => by
    show runC lru C L (agS s ++ ags ss) = _
    rw [runC_app, (ag_step (h s (by simp))).1, ags_run ss _ fun x hx => h x (List.mem_cons_of_mem _ hx)]; rfl
/-- The place of a step among all. -/
def atP (ss : List CS) (i : Nat) : Nat := (ags (ss.take (i + 1))).length - 1
theorem ags_app (a b : List CS) : ags (a ++ b) = ags a ++ ags b := List.flatMap_append ..
theorem agS_len (s : CS) : 1 ≤ (agS s).length ∧ (agS s).length ≤ 3 := by unfold agS; split <;> simp
theorem ags_len : ∀ ss : List CS, (ags ss).length ≤ 3 * ss.length
  | [] => Nat.le_refl _
  | s :: ss => by
    show (agS s ++ ags ss).length ≤ _
    have := agS_len s
    have := ags_len ss
    rw [List.length_append, List.length_cons]; omega
theorem ags_at {lru : Bool} {C : Nat} {ss : List CS} {L : List Cit} (h : ∀ s ∈ ss, OkC C s) {i : Nat} (hi : i < ss.length) : (ansC lru C L (ags ss))[atP ss i]? = (ansC lru C L ss)[i]? ∧ atP ss i < (ags ss).length := by
  have hx : ss[i]? = some ss[i] := List.getElem?_eq_getElem hi
  have hsm : ss[i] ∈ ss := List.getElem_mem hi
  generalize ss[i] = s at hx hsm
  obtain ⟨e1, pre, e2, e3⟩ := ag_step (lru := lru) (L := runC lru C L (ss.take i)) (h s hsm)
  have es : ss = ss.take i ++ (s :: ss.drop (i + 1)) := by
    conv => lhs; rw [← List.take_append_drop i ss]
    rw [List.drop_eq_getElem_cons hi]
    have := List.getElem?_eq_getElem hi
    rw [this] at hx; cases hx; rfl
  have ea : atP ss i = (ags (ss.take i)).length + pre.length := by
    unfold atP
    rw [take_snoc hx, ags_app, List.length_append]
    show _ + (agS s ++ []).length - 1 = _
    rw [List.append_nil]; omega
  have hal := ansC_len lru C (ags (ss.take i)) L
  have hal2 := ansC_len lru C (ss.take i) L
  have htl : (ss.take i).length = i := by simp; omega
  constructor
  · have hl : ansC lru C L (ags ss) = ansC lru C L (ags (ss.take i)) ++ ((pre ++ [sayC lru C (runC lru C L (ss.take i)) s]) ++ ansC lru C (runC lru C L (ags (ss.take i) ++ agS s)) (ags (ss.drop (i + 1)))) := by
      conv => lhs; rw [es, ags_app]
      show ansC lru C L (ags (ss.take i) ++ (agS s ++ ags (ss.drop (i + 1)))) = _
      rw [← List.append_assoc, ansC_app, ansC_app, ags_run _ _ fun x hx => h x (List.mem_of_mem_take hx), e2, List.append_assoc]
    rw [hl, ea, List.getElem?_append_right (by omega), hal, Nat.add_sub_cancel_left, List.getElem?_append_left (by simp), List.getElem?_append_right (Nat.le_refl _), Nat.sub_self]
    conv => rhs; rw [es, ansC_app]
    rw [List.getElem?_append_right (by omega), hal2, htl, Nat.sub_self]; rfl
  · rw [ea]
    conv => rhs; rw [es, ags_app]
    show _ < (ags (ss.take i) ++ (agS s ++ ags (ss.drop (i + 1)))).length
    rw [List.length_append, List.length_append]; omega
theorem okC_ags {C : Nat} {ss : List CS} (h : ∀ s ∈ ss, OkC C s) : ∀ s ∈ ags ss, OkC C s := fun x hx => by
  obtain ⟨s, hs, hx⟩ := List.mem_flatMap.1 hx
  have hk := h s hs
  unfold agS at hx
  split at hx
  · rename_i h1
    simp only [List.mem_cons, List.not_mem_nil, or_false] at hx
    rcases hx with rfl | rfl | rfl
    · exact hk
    · refine ⟨.inr (.inr rfl), by show 1 ≤ 8; decide, fun z hz => ?_⟩
      have hz : z = s.key := by simpa [rmS] using hz
      rcases hk.1 with ⟨_, b, _⟩ | h | h
      · rw [hz]; exact b
      · omega
      · omega
    · exact hk
  · rw [List.mem_singleton] at hx
    subst hx; exact hk
theorem scS_one (s : Sd) : scS 1 s = s := by
  unfold scS
  have : scI 1 = id := by funext x; simp [scI]
  rw [this, List.map_id, Nat.mul_one]
end Go.Proofs.YtmaejciimpnogaaDoor.E
