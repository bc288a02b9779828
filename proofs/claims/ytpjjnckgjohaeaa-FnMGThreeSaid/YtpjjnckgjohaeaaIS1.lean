/-
  The sorted slices of numbers: sorting by the library's sort, searching, and the small functions around.
-/
import Derived.Test.YtpjjnckgjohaeaaSortW
import Derived.Test.YtpjjnckgjohaeaaLists
import Derived.Test.YtpjjnckgjohaeaaShelfA
import Derived.Test.YtpjjnckgjohaeaaFnsA
import Derived.Test.YtpjjnckgjohaeaaFnsB
namespace Go.Proofs.Ytpjjnckgjohaeaa.E
open Go Go.Sort
set_option linter.unusedSimpArgs false
set_option linter.unusedVariables false
set_option maxRecDepth 100000
set_option maxHeartbeats 2000000

theorem und25 : Try.prog.underlying 25 = some (.slice 2) := by kernel_rfl
theorem und45 : Try.prog.underlying 45 = some (.slice 2) := by kernel_rfl
theorem und22 : Try.prog.underlying 22 = some (.slice 23) := by kernel_rfl
theorem inf2 : ∃ i, Try.prog.info? 2 = some i ∧ i.zero = some (.int .i64 0) ∧ i.size = 1 ∧ i.bytes = 8 := ⟨_, rfl, by kernel_rfl, by kernel_rfl, by kernel_rfl⟩
theorem inf23 : ∃ i, Try.prog.info? 23 = some i ∧ i.zero = some (.int .i16 0) ∧ i.size = 1 ∧ i.bytes = 2 := ⟨_, rfl, by kernel_rfl, by kernel_rfl, by kernel_rfl⟩

/-- append, of two names of one slice type. -/
theorem append_names {P : Program} {t u e d ty : TypeId} {p a : Option Addr} {l c m n : Nat} {w : World} (ht : P.underlying t = some (.slice e)) (hu : P.underlying u = some (.slice d)) :
    (Builtin.append_ #[t, u] ty #[.slice p l c, .slice a m n]).run P w = (Builtin.append_ #[t, t] ty #[.slice p l c, .slice a m n]).run P w := by
  simp only [Builtin.append_, List.getElem?_toArray, List.getElem?_cons_zero, List.getElem?_cons_succ, Sem.run_bind, run_underlying ht, run_underlying hu, Result.andThen_ok, Sem.run_pure]
theorem ints_one (xs : List Int) : ∀ u ∈ ints xs, u.oneCell' = true := by
  intro u hu
  obtain ⟨x, _, rfl⟩ := List.mem_map.1 hu
  rfl
theorem Own.ofN {w : World} {e : TypeId} {p : Option Addr} {l c : Nat} {vs : List Value} (h : OwnN w e 1 p l c vs) : Own w e p l c vs := by
  refine ⟨by simpa using h.1, h.2.imp id ?_⟩
  rintro ⟨q, rest, h1, h2, h3, h4, h5⟩
  exact ⟨q, rest, h1, h2, by simpa using h3, h5⟩
theorem NextT_enter {P : Program} {s : Sem Next} {r : RTy} {f : Fn W r.leaves} {g : FuncId} {args : Array Value} {w w' : World} (h : s.run P w = .ok (.enter g args) w') (hk : Calls P g args w' (Back r f)) : NextT P s r f w := by
  unfold NextT; rw [h]; exact hk
theorem reads_ints {w : World} {a : Addr} {xs : List Int} (h : Ints w (some a) xs) : ∀ j u, (ints xs)[j]? = some u → w.cell? (a.add j) = some u := by
  intro j u hj
  rw [ints_get] at hj
  cases hx : xs[j]? with
  | none => rw [hx] at hj; cases hj
  | some x =>
    rw [hx] at hj; cases hj
    obtain ⟨a', ha, hc⟩ := h j x hx
    cases ha; exact hc
/-- A copy of numbers. -/
theorem F22_spec {k : Value → W} {w : World} {p : Option Addr} {l c : Nat} {xs : List Int} (hX : Ints w p xs) (hl : l = xs.length) (h0 : 0 < xs.length) (hb : xs.length < 100000)
    (hk : ∀ q c' w', Own w' 2 q l c' (ints xs) → (∀ b, bl q b → w.heap.size ≤ b) → Fr (fun _ => False) w w' → k (.slice q l c') w') : F22 k p l c w := by
  subst hl
  obtain ⟨a, rfl, _⟩ := hX 0 _ (List.getElem?_eq_getElem h0)
  unfold F22
  obtain ⟨ii, hi1, hi2, hi3, hi4⟩ := inf2
  have hr : NextT Try.prog (builtin .append #[45, 45] 45 [true, false].toArray [.slice none 0 0, .slice (some a) xs.length c].toArray) (.s (.one .slice)) (fun p l c => k (.slice p l c)) w := by
    refine append_own (P := Try.prog) und45 hi1 hi2 hi3 (by decide) rfl (by omega) (OwnN.nil w 2 1) (news := ints xs) (by simp) (reads_ints hX) (ints_one xs) (by omega) fun p' c' w' f' o' hp' => ?_
    rw [Nat.zero_add, List.nil_append] at o'
    rw [Nat.zero_add]
    refine hk p' c' w' (Own.ofN o') (fun b hb => ?_) (f'.mono fun b hb => by obtain ⟨x, hx, _⟩ := hb; cases hx)
    rcases hp' b hb with h | h
    · obtain ⟨x, hx, _⟩ := h; cases hx
    · exact h
  unfold NextT at hr ⊢
  have e : (builtin .append #[45, 25] 45 [true, false].toArray [.slice none 0 0, .slice (some a) xs.length c].toArray).run Try.prog w = (builtin .append #[45, 45] 45 [true, false].toArray [.slice none 0 0, .slice (some a) xs.length c].toArray).run Try.prog w := by
    show Sem.run _ (do let a ← Builtin.append_ _ _ _; pure (Next.value a)) w = Sem.run _ (do let a ← Builtin.append_ _ _ _; pure (Next.value a)) w
    rw [Sem.run_bind, Sem.run_bind, append_names und45 und25]
  rw [e]; exact hr

/-! ## The library's sort -/
theorem lenReached (p : Option Addr) (n c : Nat) : Reaches Try.prog 45 (.slice p n c) "Len" 101 := ⟨fun _ => by kernel_rfl, enters_of Try.func101 (by kernel_rfl) rfl⟩
theorem lessReached (p : Option Addr) (n c : Nat) : Reaches Try.prog 45 (.slice p n c) "Less" 102 := ⟨fun _ => by kernel_rfl, enters_of Try.func102 (by kernel_rfl) rfl⟩
theorem swapReached (p : Option Addr) (n c : Nat) : Reaches Try.prog 45 (.slice p n c) "Swap" 103 := ⟨fun _ => by kernel_rfl, enters_of Try.func103 (by kernel_rfl) rfl⟩
theorem lenM (p : Option Addr) (n c : Nat) (w : World) : LenM Try.prog 101 (.slice p n c) n w := F101_calls (R := fun e w' => e = .returned (.int .i64 n) ∧ ∃ q, w' = w.drewN q) ⟨rfl, 0, rfl⟩
theorem lessM (blk c : Nat) (d : Array Int) (w : World) (hH : Holds (Value.int .i64) w blk 0 d) (hblk : blk < w.heap.size) :
    LessM Try.prog 102 (.slice (some ⟨blk, 0, none⟩) d.size c) (Value.int .i64) ltInt blk 0 d.size w := fun m os dk hs i j hi hj => by
  have hc := fun t (ht : t < d.size) => ((holds_sortWorld (Value.int .i64) w blk 0 m d dk os hblk hH hs) t (by omega)).1
  refine F102_calls ?_
  unfold F102
  refine (show _ ∧ LoadT _ _ _ _ from ⟨by omega, LoadT_int.2 ⟨dk[i]!, ?_, (show _ ∧ LoadT _ _ _ _ from ⟨by omega, LoadT_int.2 ⟨dk[j]!, ?_, ?_⟩⟩)⟩⟩)
  · rw [add_mk, Int.toNat_natCast]; exact hc i hi
  · rw [add_mk, Int.toNat_natCast]; exact hc j hj
  · exact ⟨rfl, 1, rfl⟩
theorem swapM (blk c size : Nat) : SwapM Try.prog 103 (.slice (some ⟨blk, 0, none⟩) size c) (Value.int .i64) blk 0 size := fun W dk hH hs i j hi hj => by
  have ci := (hH i (by omega)).1
  have cj := (hH j (by omega)).1
  have fi := (hH i (by omega)).2
  have fj := (hH j (by omega)).2
  refine F103_calls ?_
  unfold F103
  simp only [Drw_iff, NN_mk, Req_iff, LoadT_int, Store1_iff, Int.toNat_natCast, add_mk]
  refine ⟨by omega, _, cj, by omega, _, ci, by omega, rfl, ⟨_, ci⟩, fi, by omega, rfl, ?_, ?_, ?_⟩
  · rw [cell_set]
    split
    · rw [show W.drew.cell? ⟨blk, 0 + i, none⟩ = W.cell? ⟨blk, 0 + i, none⟩ from rfl, ci]; exact ⟨_, rfl⟩
    · exact ⟨_, cj⟩
  · rw [World.frozen?_setCell]; exact fj
  · exact ⟨trivial, 1, rfl⟩
theorem toList_srt {xs : List Int} {d : Array Int} (h1 : PermIn 0 xs.length xs.toArray d) (h2 : SortedIn ltInt 0 xs.length d) : d = (srt xs).toArray := by
  obtain ⟨hs, _, hp⟩ := h1
  have hs' : d.size = xs.length := by simpa using hs
  have e1 : (d.extract 0 xs.length) = d := by rw [← hs', Array.extract_size]
  have e2 : (xs.toArray.extract 0 xs.length) = xs.toArray := by simp
  rw [e1, e2] at hp
  have hp : d.toList.Perm xs := hp
  have hsort : d.toList.Pairwise (· ≤ ·) := by
    rw [List.pairwise_iff_getElem]
    intro i j hi hj hij
    have := h2 i j (Nat.zero_le _) hij (by simpa [hs'] using hj)
    rw [getElem!_pos d j (by simpa using hj), getElem!_pos d i (by simpa using hi)] at this
    simp only [ltInt, decide_eq_false_iff_not] at this
    simp only [Array.getElem_toList]
    omega
  have := asc_eq hsort (srt_asc xs) (hp.trans (srt_perm xs).symm)
  rw [← this]
theorem srt_tiny : ∀ {xs : List Int}, xs.length ≤ 1 → srt xs = xs
  | [], _ => List.perm_nil.1 (srt_perm [])
  | [x], _ => List.perm_singleton.1 (srt_perm [x])
  | _ :: _ :: _, h => by simp at h
theorem ren11 : Try.sl11_ren.f 11 = 33 := rfl
theorem F33_spec {w : World} {q c : Nat} {xs : List Int} {rest : List Value} {R : Ending → World → Prop} (hB : Blk w q 2 (ints xs ++ rest)) (h0 : 0 < xs.length) (hb : xs.length < 100000)
    (hk : ∀ w', Blk w' q 2 (ints (srt xs) ++ rest) → Fr (fun b => b = q) w w' → R (.returned (.tuple #[])) w') : Calls Try.prog 33 #[.iface 45 (.slice (some ⟨q, 0, none⟩) xs.length c)] w R := by
  by_cases h1 : xs.length ≤ 1
  · have hS := Any.sort_Sort_tiny Try.sl11 45 (.slice (some ⟨q, 0, none⟩) xs.length c) 101 (lenReached _ _ _) xs.length h1 w (lenM _ _ _ _)
    rw [ren11] at hS
    refine hS.mono fun e w' ⟨he, n, hw⟩ => ?_
    subst he; subst hw
    have hx := srt_tiny h1
    refine hk _ ?_ ⟨rfl, rfl, rfl, Nat.le_refl _, fun _ _ _ => rfl⟩
    rw [hx]; exact hB
  · have hH := holds_of (enc := Value.int .i64) (xs := xs) hB
    have hS := Any.sort_Sort_sorted Try.sl11 45 (.slice (some ⟨q, 0, none⟩) xs.toArray.size c) 101 102 103 (lenReached _ _ _) (lessReached _ _ _) (swapReached _ _ _) (Value.int .i64) ltInt swo_ltInt
      q 0 xs.toArray (by simp; omega) (by simp; omega) w (lenM _ _ _ _) (lessM q c xs.toArray w hH hB.lt) (swapM q c xs.toArray.size) hH hB.lt
    rw [ren11] at hS
    refine hS.mono fun e w' ⟨he, d, n, os, hP, hSo, hw⟩ => ?_
    subst he
    have hd := toList_srt (by simpa using hP) (by simpa using hSo)
    subst hd
    have := blk_sorted (os := os) (n := n) (enc := Value.int .i64) (ys := srt xs) hB (srt_len xs)
    rw [← hw] at this
    exact hk _ this.1 this.2
/-- ISSort. -/
theorem F8_spec {k : Value → W} {w : World} {p : Option Addr} {l c : Nat} {xs : List Int} (hX : Ints w p xs) (hl : l = xs.length) (h0 : 0 < xs.length) (hb : xs.length < 100000)
    (hk : ∀ q c' w', Own w' 2 q l c' (ints (srt xs)) → Fr (fun _ => False) w w' → k (.slice q l c') w') : F8 k p l c w := by
  subst hl
  unfold F8
  refine F22_call (F22_spec hX rfl h0 hb fun q c' w1 o1 hq f1 => back_slice ?_)
  obtain ⟨q, rest, rfl, hB, hc, hm⟩ := o1.get h0
  refine F23_call ?_
  unfold F23
  refine F33_spec hB h0 hb fun w2 hB2 f2 => back0 ?_
  refine back0 ?_
  refine hk _ _ w2 ⟨by simp [srt_len], .inr ⟨q, rest, rfl, hB2, ?_, hm⟩⟩ (f1.trans f2 fun b e => .inr (hq b ⟨_, rfl, e.symm⟩))
  rw [← hc]; simp [srt_len]
end Go.Proofs.Ytpjjnckgjohaeaa.E
