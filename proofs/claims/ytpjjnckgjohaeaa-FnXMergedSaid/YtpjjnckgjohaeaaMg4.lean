/-
  The merge of two lists, whatever their lengths; the merge as the thin package gives it.
-/
import Derived.Test.YtpjjnckgjohaeaaMg3
namespace Go.Proofs.Ytpjjnckgjohaeaa.E
open Go
set_option linter.unusedSimpArgs false
set_option linter.unusedVariables false
set_option maxRecDepth 100000
set_option maxHeartbeats 4000000

theorem up_take {l : List (Int × Int)} (h : Up l) (n : Nat) : Up (l.take n) := h.sublist (List.take_sublist n l)
theorem up_drop {l : List (Int × Int)} (h : Up l) (n : Nat) : Up (l.drop n) := h.sublist (List.drop_sublist n l)
theorem mem_take_fn {l : List (Int × Int)} {n : Nat} {x : Int × Int} (h : x ∈ l.take n) : ∃ j, j < n ∧ j < l.length ∧ x = fn l j := by
  obtain ⟨j, hj⟩ := List.getElem?_of_mem h
  rw [List.getElem?_take] at hj
  split at hj
  · rename_i hjn
    have hl : j < l.length := (List.getElem?_eq_some_iff.1 hj).1
    rw [fn_get hl] at hj
    exact ⟨j, hjn, hl, (Option.some.inj hj).symm⟩
  · cases hj
theorem mem_drop_fn {l : List (Int × Int)} {n : Nat} {x : Int × Int} (h : x ∈ l.drop n) : ∃ j, n ≤ j ∧ j < l.length ∧ x = fn l j := by
  obtain ⟨j, hj⟩ := List.getElem?_of_mem h
  rw [List.getElem?_drop] at hj
  have hl : n + j < l.length := (List.getElem?_eq_some_iff.1 hj).1
  rw [fn_get hl] at hj
  exact ⟨n + j, by omega, hl, (Option.some.inj hj).symm⟩
/-- What is cut out first is not greater than what is left. -/
theorem cut_le {ss ll : List (Int × Int)} {i t : Nat} (hs : Up ss) (hl : Up ll) (hi : i ≤ ss.length) (ht : t ≤ ll.length) (L : 0 < i → t < ll.length → key (fn ss (i - 1)) ≤ key (fn ll t)) (R : i < ss.length → 0 < t → key (fn ll (t - 1)) < key (fn ss i)) :
    ∀ x ∈ ss.take i ++ ll.take t, ∀ y ∈ ss.drop i ++ ll.drop t, key x ≤ key y := by
  intro x hx y hy
  rcases List.mem_append.1 hx with hx | hx <;> rcases List.mem_append.1 hy with hy | hy
  · obtain ⟨a, a1, a2, rfl⟩ := mem_take_fn hx
    obtain ⟨b, b1, b2, rfl⟩ := mem_drop_fn hy
    exact up_asc hs (by omega) b2
  · obtain ⟨a, a1, a2, rfl⟩ := mem_take_fn hx
    obtain ⟨b, b1, b2, rfl⟩ := mem_drop_fn hy
    have h1 := up_asc hs (i := a) (j := i - 1) (by omega) (by omega)
    have h2 := up_asc hl b1 b2
    have h3 := L (by omega) (by omega)
    omega
  · obtain ⟨a, a1, a2, rfl⟩ := mem_take_fn hx
    obtain ⟨b, b1, b2, rfl⟩ := mem_drop_fn hy
    have h1 := up_asc hl (i := a) (j := t - 1) (by omega) (by omega)
    have h2 := up_asc hs b1 b2
    have h3 := R (by omega) (by omega)
    omega
  · obtain ⟨a, a1, a2, rfl⟩ := mem_take_fn hx
    obtain ⟨b, b1, b2, rfl⟩ := mem_drop_fn hy
    exact up_asc hl (by omega) b2
theorem up_append {l m : List (Int × Int)} (hl : Up l) (hm : Up m) (h : ∀ x ∈ l, ∀ y ∈ m, key x ≤ key y) : Up (l ++ m) := List.pairwise_append.2 ⟨hl, hm, h⟩
theorem reads_own {w : World} {q l c : Nat} {us : List (Int × Int)} (h : Own w 60 (some ⟨q, 0, none⟩) l c (encs us)) : ∀ j u, (encs us)[j]? = some u → w.cell? ((⟨q, 0, none⟩ : Addr).add j) = some u := by
  intro j u hj
  have hl := h.1
  have : j < (encs us).length := (List.getElem?_eq_some_iff.1 hj).1
  rw [add_mk, Nat.zero_add, Own.cell h (by omega)]; exact hj

/-- The long way: the lists cut, merged by parts, joined. -/
theorem far_way {w : World} {qw : Nat} {ss ll : List (Int × Int)} {i t : Nat} {p7 p9 : Option Addr} {rest : List Value} {cc dd : Nat} {f : Option Addr → Nat → Nat → W} {base : Nat} (hs : Up ss) (hl : Up ll) (hi : i ≤ ss.length) (ht0 : 0 < i + t) (ht : t ≤ ll.length) (ht2 : 0 < (ss.length - i) + (ll.length - t)) (hb : ss.length + ll.length < 100000)
    (L : 0 < i → t < ll.length → key (fn ss (i - 1)) ≤ key (fn ll t)) (R : i < ss.length → 0 < t → key (fn ll (t - 1)) < key (fn ss i))
    (o7 : Own w 60 p7 i i (encs (ss.take i))) (o9 : Own w 60 p9 (ss.length - i) (ss.length - i) (encs (ss.drop i))) (hB : Blk w qw 60 (encs ll ++ rest)) (h7 : ∀ b, bl p7 b → base ≤ b) (h9 : ∀ b, bl p9 b → base ≤ b ∧ ¬ bl p7 b) (hq : qw < base) (hbase : base ≤ w.heap.size)
    (hk : ∀ zs p c w', Own w' 60 p zs.length c (encs zs) → zs.Perm (ss ++ ll) → Up zs → Fr (fun b => base ≤ b) w w' → f p zs.length c w') :
    NextT Try.prog (builtin .append #[56, 56] 56 [false, false].toArray [.slice p7 i i, .slice (some ⟨qw, 0, none⟩) t cc].toArray) (.s (.one .slice)) (fun s11p s11l s11c =>
    NextT Try.prog (builtin .append #[56, 56] 56 [false, false].toArray [.slice p9 (ss.length - i) (ss.length - i), .slice (some ⟨qw, t, none⟩) (ll.length - t) dd].toArray) (.s (.one .slice)) fun s12p s12l s12c =>
    CallT Try.prog 41 [.slice s11p s11l s11c, .int .i64 0, .int .i64 ((i : Nat) : Int), .int .i64 ((s11l : Nat) : Int)] (.tup []) <|
    CallT Try.prog 41 [.slice s12p s12l s12c, .int .i64 0, .int .i64 ((ss.length - i : Nat) : Int), .int .i64 ((s12l : Nat) : Int)] (.tup []) <|
    NextT Try.prog (builtin .append #[56, 56] 56 [false, false].toArray [.slice s11p s11l s11c, .slice s12p s12l s12c].toArray) (.s (.one .slice)) f) w := by
  obtain ⟨ii, hi1, hi2, hi3, hi4⟩ := inf60
  have rdt : ∀ {w : World}, Blk w qw 60 (encs ll ++ rest) → ∀ j u, (encs (ll.take t))[j]? = some u → w.cell? ((⟨qw, 0, none⟩ : Addr).add j) = some u := by
    intro w hB j u hj
    rw [encs_get, List.getElem?_take] at hj
    split at hj
    · rename_i hjt
      rw [fn_get (by omega)] at hj
      rw [add_mk, Nat.zero_add, blkE hB (by omega)]; exact hj
    · cases hj
  have rdd : ∀ {w : World}, Blk w qw 60 (encs ll ++ rest) → ∀ j u, (encs (ll.drop t))[j]? = some u → w.cell? ((⟨qw, t, none⟩ : Addr).add j) = some u := by
    intro w hB j u hj
    rw [encs_get, List.getElem?_drop] at hj
    by_cases hjt : t + j < ll.length
    · rw [fn_get hjt] at hj
      rw [add_mk, blkE hB hjt]; exact hj
    · rw [List.getElem?_eq_none (by omega)] at hj; cases hj
  refine append_own (P := Try.prog) und55 hi1 hi2 hi3 (by decide) rfl (by omega) o7.toN (news := encs (ll.take t)) (by rw [encs_length]; simp; omega) (rdt hB) (encs_one _) (by omega) fun p11 c11 w2 f2 o2 hp11 => ?_
  have o9' := o9.fr f2 fun b hb h => (h9 b hb).2 h
  have hB2 := hB.fr f2 fun h => by have := h7 _ h; omega
  refine append_own (P := Try.prog) und55 hi1 hi2 hi3 (by decide) rfl (by omega) o9'.toN (news := encs (ll.drop t)) (by rw [encs_length]; simp) (rdd hB2) (encs_one _) (by omega) fun p12 c12 w3 f3 o3 hp12 => ?_
  have o11 := Own.ofN o2
  have o12 := Own.ofN o3
  rw [← encs_append] at o11 o12
  have ne9 : ∀ b, bl p11 b → ¬ bl p9 b := fun b hb h => by
    rcases hp11 b hb with h' | h'
    · exact (h9 b h).2 h'
    · have := o9.lt h; omega
  have o11' := o11.fr f3 ne9
  obtain ⟨q11, r11, rfl, _, _, _⟩ := o11'.get ht0
  obtain ⟨q12, r12, rfl, _, _, _⟩ := o12.get ht2
  have l11 : q11 < w2.heap.size := o11.lt (b := q11) ⟨_, rfl, rfl⟩
  have n9 : ¬ bl p9 q11 := ne9 q11 ⟨_, rfl, rfl⟩
  have hne : q11 ≠ q12 := by
    rintro rfl
    rcases hp12 q11 ⟨_, rfl, rfl⟩ with h | h
    · exact n9 h
    · omega
  have b11 : base ≤ q11 := by
    rcases hp11 q11 ⟨_, rfl, rfl⟩ with h | h
    · exact h7 _ h
    · omega
  have b12 : base ≤ q12 := by
    rcases hp12 q12 ⟨_, rfl, rfl⟩ with h | h
    · exact (h9 _ h).1
    · have := f2.size; omega
  have lt1 : (ss.take i).length = i := by simp; omega
  have lt2 : (ll.take t).length = t := by simp; omega
  have ld1 : (ss.drop i).length = ss.length - i := by simp
  have ld2 : (ll.drop t).length = ll.length - t := by simp
  have m1 := merge_row (R := fun e w' => Back (.tup []) (CallT Try.prog 41 [.slice (some ⟨q12, 0, none⟩) (ss.length - i + (ll.length - t)) c12, .int .i64 0, .int .i64 ((ss.length - i : Nat) : Int), .int .i64 ((ss.length - i + (ll.length - t) : Nat) : Int)] (.tup []) <|
    NextT Try.prog (builtin .append #[56, 56] 56 [false, false].toArray [.slice (some ⟨q11, 0, none⟩) (i + t) c11, .slice (some ⟨q12, 0, none⟩) (ss.length - i + (ll.length - t)) c12].toArray) (.s (.one .slice)) f) e w') o11' (by rw [lt1, lt2]) (by omega) (up_take hs i) (up_take hl t)
  rw [lt1] at m1
  refine m1 fun z1 w4 g4 hz1 hp1 up1 f4 => back0 ?_
  have o12' := o12.fr f4 fun b ⟨a, h, e⟩ g => by cases h; exact hne ((show q12 = b from e).trans g).symm
  have m2 := merge_row (R := fun e w' => Back (.tup []) (NextT Try.prog (builtin .append #[56, 56] 56 [false, false].toArray [.slice (some ⟨q11, 0, none⟩) (i + t) c11, .slice (some ⟨q12, 0, none⟩) (ss.length - i + (ll.length - t)) c12].toArray) (.s (.one .slice)) f) e w') o12' (by rw [ld1, ld2]) (by omega) (up_drop hs i) (up_drop hl t)
  rw [ld1] at m2
  refine m2 fun z2 w5 g5 hz2 hp2 up2 f5 => back0 ?_
  have g45 := g4.fr f5 fun b ⟨a, h, e⟩ g => by cases h; exact hne ((show q11 = b from e).trans g)
  refine append_own (P := Try.prog) und55 hi1 hi2 hi3 (by decide) rfl (by omega) g45.toN (news := encs z2) (by rw [encs_length]; simp; exact hz2) (reads_own g5) (encs_one _) (by omega) fun p13 c13 w6 f6 o6 hp13 => ?_
  have o13 := Own.ofN o6
  rw [← encs_append] at o13
  have e13 : i + t + (ss.length - i + (ll.length - t)) = (z1 ++ z2).length := by rw [List.length_append, hz1, hz2]
  rw [e13] at o13 ⊢
  refine hk (z1 ++ z2) p13 c13 w6 o13 ?_ ?_ ?_
  · refine (hp1.append hp2).trans ?_
    have e : ss ++ ll = (ss.take i ++ ss.drop i) ++ (ll.take t ++ ll.drop t) := by rw [List.take_append_drop, List.take_append_drop]
    rw [e, List.append_assoc, List.append_assoc]
    refine List.Perm.append_left _ ?_
    rw [← List.append_assoc, ← List.append_assoc]
    exact (List.perm_append_comm).append_right _
  · refine up_append up1 up2 fun x hx y hy => ?_
    exact cut_le hs hl hi ht L R x (hp1.mem_iff.1 hx) y (hp2.mem_iff.1 hy)
  · have F2 := f2.mono (S' := fun b => base ≤ b) fun b hb => .inl (h7 b hb)
    have F3 := F2.trans f3 fun b hb => .inl (h9 b hb).1
    have F4 := F3.trans f4 fun b hb => .inl (by have : b = q11 := hb; omega)
    have F5 := F4.trans f5 fun b hb => .inl (by have : b = q12 := hb; omega)
    exact F5.trans f6 fun b ⟨a, h, e⟩ => .inl (by cases h; have : q11 = b := e; omega)
end Go.Proofs.Ytpjjnckgjohaeaa.E
