/-
  FnPQMore: its last part.
-/
import Derived.Test.YtbbidbjefdaagaaDoorPq9
namespace Go.Proofs.YtbbidbjefdaagaaDoor.E
open Go Go.Sort
set_option linter.unusedSimpArgs false
set_option linter.unusedVariables false
set_option maxRecDepth 100000
set_option maxHeartbeats 4000000

/-- What holds all the way: the further element, the items. -/
structure Cx (w : World) (n : Nat) (X : It2) (ip : Option Addr) (ic : Nat) (T : List It2) : Prop where
  hx : Blk w n 28 [.int .i64 X.1, .int .i64 X.2]
  hI : OwnN w 28 2 ip T.length ic (flat T)
  h0 : 0 < T.length
  hb : T.length ≤ 30
theorem Cx.fr0 {w w' : World} {n : Nat} {X : It2} {ip : Option Addr} {ic : Nat} {T : List It2} (h : Cx w n X ip ic T) (f : Fr (fun _ => False) w w') : Cx w' n X ip ic T := ⟨h.hx.fr f id, h.hI.fr f fun _ _ h => h, h.h0, h.hb⟩
theorem Cx.hE {w : World} {n : Nat} {X : It2} {ip : Option Addr} {ic : Nat} {T : List It2} (h : Cx w n X ip ic T) : Edges w ip T := h.hI.pairs
theorem Cx.hc {w : World} {n : Nat} {X : It2} {ip : Option Addr} {ic : Nat} {T : List It2} (h : Cx w n X ip ic T) : T.length ≤ ic := by
  have h0 := h.h0
  rcases h.hI.2 with ⟨_, h, _⟩ | ⟨_, _, _, _, _, h, _⟩
  · omega
  · exact h
/-- Blocks that are no rows of steps stay. -/
def Keep (w w' : World) : Prop := ∀ (t b : Nat) us, t ≠ 40 → Blk w b t us → Blk w' b t us
theorem Keep.of {w w' : World} (f : Fr (fun _ => False) w w') : Keep w w' := fun t b us _ h => h.fr f id
theorem Keep.trans {w w' w'' : World} (h : Keep w w') (h' : Keep w' w'') : Keep w w'' := fun t b us ht hb => h' t b us ht (h t b us ht hb)
theorem OwnN.keep {w w' : World} {e : TypeId} {sz : Nat} {p : Option Addr} {l c : Nat} {vs : List Value} (h : OwnN w e sz p l c vs) (ht : e ≠ 40) (k : Keep w w') : OwnN w' e sz p l c vs := by
  refine ⟨h.1, h.2.imp id ?_⟩
  rintro ⟨q, rest, rfl, hb, hc, hm⟩
  exact ⟨q, rest, rfl, k e q _ ht hb, hc, hm⟩
theorem Own.keep {w w' : World} {e : TypeId} {p : Option Addr} {l c : Nat} {vs : List Value} (h : Own w e p l c vs) (ht : e ≠ 40) (k : Keep w w') : Own w' e p l c vs := by
  refine ⟨h.1, h.2.imp id ?_⟩
  rintro ⟨q, rest, rfl, hb, hc, hm⟩
  exact ⟨q, rest, rfl, k e q _ ht hb, hc, hm⟩
theorem Cx.keep {w w' : World} {n : Nat} {X : It2} {ip : Option Addr} {ic : Nat} {T : List It2} (h : Cx w n X ip ic T) (k : Keep w w') : Cx w' n X ip ic T := ⟨k 28 n _ (by decide) h.hx, h.hI.keep (by decide) k, h.h0, h.hb⟩
abbrev tk (N : Nat) : Ent := ⟨2, N, none, 0, []⟩

/-! ## Scripts with two takes -/
theorem got_true {C : List It2} {xs : List It2} {dup : Bool} (h : C.Perm (addAll true [] xs)) : C.Perm xs := by rw [addAll_true] at h; exact h
theorem Run.start {dup : Bool} {es : List Ent} {xs : List It2} {m : Nat} {os : List (List It2)} {C : List It2} (hP : Puts es xs m) (h : Run dup (es.map Ent.st) os C) : os.flatten = [] ∧ C.Perm (addAll dup [] xs) := by
  obtain ⟨hp1, hp2⟩ := puts_st hP
  obtain ⟨os2, C2, g1, g2, g3⟩ := Run.puts _ (es.map Ent.st) [] os C rfl hp1 (by simpa using h)
  obtain ⟨rfl, rfl⟩ := g1.blank
  rw [hp2] at g3
  exact ⟨by simpa using g2, g3⟩
theorem up_append {a b : List It2} (ha : Up a) (hb : Up b) (h : ∀ x ∈ a, ∀ y ∈ b, key x ≤ key y) : Up (a ++ b) := List.pairwise_append.2 ⟨ha, hb, h⟩
/-- Some taken, one more put, all taken: in order, where none of those that were taken is greater. -/
theorem Run.twice {es fs : List Ent} {T : List It2} {X : It2} {m m' n : Nat} {os : List (List It2)} {C : List It2} (hP : Puts es T m) (hQ : Puts fs [X] m') (hn : n ≤ T.length) (hT : T.length ≤ 100)
    (hle : ∀ i v, i < n → (srt (T.map key))[i]? = some v → v ≤ X.1) (h : Run true ((es ++ [tk n] ++ fs ++ [tk 1000]).map Ent.st) os C) : os.flatten.map key = srt (T.map key ++ [X.1]) := by
  rw [List.map_append] at h
  obtain ⟨os1, C1, ys, h1, rfl, _, h2⟩ := Run.inv (s := (2, 1000, [])) h
  obtain ⟨g, hl⟩ := h2 rfl
  obtain ⟨hq1, hq2⟩ := puts_st hQ
  rw [List.map_append] at h1
  obtain ⟨os2, C2, g1, g2, g3⟩ := Run.puts _ (fs.map Ent.st) _ os1 C1 rfl hq1 h1
  rw [hq2, addAll_true] at g3
  rw [List.map_append] at g1
  obtain ⟨os3, C3, zs, k1, rfl, _, k2⟩ := Run.inv (s := (2, n, [])) g1
  obtain ⟨gz, hz⟩ := k2 rfl
  obtain ⟨e3, p3⟩ := Run.start hP k1
  rw [addAll_true, List.nil_append] at p3
  have hl3 := p3.length_eq
  have hlz := gz.1.length_eq
  rw [List.length_append] at hlz
  have hl1 := g3.length_eq
  rw [List.length_append, List.length_singleton] at hl1
  simp only at hz hl
  obtain ⟨_, hy⟩ := g.all hl (by omega)
  rw [List.flatten_append, g2, List.flatten_append, e3]
  simp only [List.flatten_nil, List.nil_append, List.flatten_cons, List.append_nil]
  have hzl : zs.length = n := by omega
  -- those that were taken first are the first of all
  have hk : zs.map key ++ srt (C2.map key) = srt (T.map key) := by
    refine asc_eq (List.pairwise_append.2 ⟨List.pairwise_map.2 gz.2.1, srt_asc _, fun a ha b hb => ?_⟩) (srt_asc _) ?_
    · obtain ⟨y, hy, rfl⟩ := List.mem_map.1 ha
      obtain ⟨x, hx, rfl⟩ := List.mem_map.1 ((srt_perm _).mem_iff.1 hb)
      exact gz.2.2 y hy x hx
    · refine ((srt_perm (C2.map key)).append_left _).trans (List.Perm.trans ?_ (srt_perm _).symm)
      rw [← List.map_append]
      exact (gz.1.trans p3).map key
  have hzx : ∀ z ∈ zs, key z ≤ X.1 := fun z hz' => by
    obtain ⟨i, hi⟩ := List.getElem?_of_mem hz'
    have hil := (List.getElem?_eq_some_iff.1 hi).1
    refine hle i (key z) (by omega) ?_
    rw [← hk, List.getElem?_append_left (by simpa using hil), List.getElem?_map, hi]; rfl
  have hup : Up (zs ++ ys) := up_append gz.2.1 g.2.1 fun z hz' y hy' => by
    have := g3.mem_iff.1 (hy.mem_iff.1 hy')
    rcases List.mem_append.1 this with h | h
    · exact gz.2.2 z hz' y h
    · simp only [List.mem_singleton] at h
      subst h; exact hzx z hz'
  refine asc_eq (List.pairwise_map.2 hup) (srt_asc _) (List.Perm.trans ?_ (srt_perm _).symm)
  have p1 : (zs ++ ys).Perm (T ++ [X]) := by
    refine ((hy.trans g3).append_left zs).trans ?_
    rw [← List.append_assoc]
    exact (gz.1.trans p3).append_right _
  have := p1.map key
  rw [List.map_append (l₁ := T)] at this
  exact this
theorem Fine.of {dup : Bool} {ss : List Stp} (h : ∀ s ∈ ss, s.2.2.length ≤ 100 ∧ (s.1 = 1 ∨ s.1 = 2 ∧ 0 < s.2.1 ∧ s.2.1 < 100000)) (h' : ∀ (i n : Nat) xs, ss[i]? = some (2, n, xs) → ∀ os C, Run dup (ss.take i) os C → 0 < C.length) : Fine dup ss := ⟨h, h'⟩
theorem Run.take_puts {dup : Bool} {es : List Ent} {xs : List It2} {m i : Nat} (hP : Puts es xs m) (hi : i = es.length) {rest : List Stp} {os : List (List It2)} {C : List It2} (h : Run dup ((es.map Ent.st ++ rest).take i) os C) : C.Perm (addAll dup [] xs) := by
  subst hi
  rw [List.take_left' (by simp)] at h
  exact (Run.start hP h).2
theorem Fine.twice {es fs : List Ent} {T : List It2} {X : It2} {m m' n : Nat} (hP : Puts es T m) (hQ : Puts fs [X] m') (hm : m ≤ 100) (hm' : m' ≤ 100) (hn0 : 0 < n) (hn : n < 100000) (hT : 0 < T.length) : Fine true ((es ++ [tk n] ++ fs ++ [tk 1000]).map Ent.st) := by
  obtain ⟨hp1, hp2⟩ := puts_st hP
  obtain ⟨hq1, hq2⟩ := puts_st hQ
  refine ⟨fun s hs => ?_, fun i k ys hi os C hR => ?_⟩
  · simp only [List.map_append, List.mem_append, List.map_cons, List.map_nil, List.mem_singleton] at hs
    rcases hs with ((hs | hs) | hs) | hs
    · obtain ⟨e, he, rfl⟩ := List.mem_map.1 hs
      have := hP.1 e he
      have h2 := this.2
      exact ⟨by show e.xs.length ≤ 100; omega, .inl this.1⟩
    · subst hs; exact ⟨by simp [Ent.st], .inr ⟨rfl, hn0, hn⟩⟩
    · obtain ⟨e, he, rfl⟩ := List.mem_map.1 hs
      have := hQ.1 e he
      have h2 := this.2
      exact ⟨by show e.xs.length ≤ 100; omega, .inl this.1⟩
    · subst hs; exact ⟨by simp [Ent.st], .inr ⟨rfl, by decide, by decide⟩⟩
  · rw [List.map_append] at hi hR
    by_cases hlast : i < ((es ++ [tk n] ++ fs).map Ent.st).length
    · rw [List.getElem?_append_left hlast] at hi
      rw [List.take_append_of_le_length (by omega)] at hR
      rw [List.map_append] at hi hR
      have hi1 : i < ((es ++ [tk n]).map Ent.st).length := by
        rcases Nat.lt_or_ge i ((es ++ [tk n]).map Ent.st).length with h | h
        · exact h
        · rw [List.getElem?_append_right h] at hi
          have := hq1 _ (List.mem_of_getElem? hi)
          cases this
      rw [List.getElem?_append_left hi1] at hi
      rw [List.take_append_of_le_length (by omega)] at hR
      rw [List.map_append] at hi hR
      have hi2 : i = es.length := by
        rcases Nat.lt_or_ge i (es.map Ent.st).length with h | h
        · rw [List.getElem?_append_left h] at hi
          have := hp1 _ (List.mem_of_getElem? hi)
          cases this
        · simp only [List.length_map, List.length_append, List.length_singleton] at h hi1; omega
      have := (Run.take_puts hP hi2 hR).length_eq
      rw [addAll_true, List.nil_append] at this
      omega
    · have hi3 : i = ((es ++ [tk n] ++ fs).map Ent.st).length := by
        have := (List.getElem?_eq_some_iff.1 hi).1
        rw [List.length_append] at this
        simp only [List.map_cons, List.map_nil, List.length_singleton] at this; omega
      subst hi3
      rw [List.take_left' rfl, List.map_append] at hR
      obtain ⟨os2, C2, g1, g2, g3⟩ := Run.puts _ (fs.map Ent.st) _ os C rfl hq1 hR
      rw [hq2, addAll_true] at g3
      have := g3.length_eq
      rw [List.length_append, List.length_singleton] at this
      omega

/-! ## The pieces of the walk -/
section
variable {w0 : World} {n : Nat} {X : It2} {ip : Option Addr} {ic : Nat} {T : List It2}
theorem chk2 {w : World} {K : W} (hx : Blk w n 28 [.int .i64 X.1, .int .i64 X.2]) (hk : K w) : (Chk1 ((⟨n, 0, none⟩ : Addr).add 0) (.int .i64 X.1) <| Chk1 ((⟨n, 0, none⟩ : Addr).add 1) (.int .i64 X.2) K) w :=
  ⟨by show w.cell? ⟨n, 0, none⟩ = _; rw [hx.cell]; rfl, by show w.cell? ⟨n, 1, none⟩ = _; rw [hx.cell]; rfl, hk⟩
/-- The further element alone in a row. -/
theorem sX {w : World} {K : Option Addr → Nat → Nat → W} (hC : Cx w n X ip ic T) (hk : ∀ q w', q = w.heap.size → Blk w' q 28 (flat [X]) → Cx w' n X ip ic T → Fr (fun _ => False) w w' → K (some ⟨q, 0, none⟩) 1 1 w') :
    RawT Tryd.prog (Instr.buildSlice 25 1 [(0, .agg #[.int .i64 X.1, .int .i64 X.2])].toArray) (.s (.one .slice)) (fun p l c => Chk1 ((⟨n, 0, none⟩ : Addr).add 0) (.int .i64 X.1) <| Chk1 ((⟨n, 0, none⟩ : Addr).add 1) (.int .i64 X.2) <| K p l c) w := by
  obtain ⟨i28, g1, g2, g3, g4⟩ := inf28
  refine build_intro und25 g1 g2 (by omega) (by omega) (fill28 X.1 X.2 i28 g3) fun w1 f1 b1 z1 => ?_
  exact chk2 (hC.hx.fr f1 id) (hk _ w1 rfl b1 (hC.fr0 f1) f1)
theorem sX' {w : World} {K : Option Addr → Nat → Nat → W} (hC : Cx w n X ip ic T) (hk : ∀ q w', q = w.heap.size → Blk w' q 28 (flat [X]) → Cx w' n X ip ic T → Fr (fun _ => False) w w' → K (some ⟨q, 0, none⟩) 1 1 w') :
    RawT Tryd.prog (Instr.buildSlice 25 1 [(0, .agg #[.int .i64 X.1, .int .i64 X.2])].toArray) (.s (.one .slice)) K w := by
  obtain ⟨i28, g1, g2, g3, g4⟩ := inf28
  refine build_intro und25 g1 g2 (by omega) (by omega) (fill28 X.1 X.2 i28 g3) fun w1 f1 b1 z1 => ?_
  exact hk _ w1 rfl b1 (hC.fr0 f1) f1
theorem edges_X {w : World} {q : Nat} (h : Blk w q 28 (flat [X])) : Edges w (some ⟨q, 0, none⟩) [X] := (OwnN.made (n := 1) h rfl (by decide)).pairs
/-- Steps that put the further element. -/
theorem sOne {w : World} {q : Nat} {K : Option Addr → Nat → Nat → W} (hC : Cx w n X ip ic T) (hq : Blk w q 28 (flat [X])) (hk : ∀ es p c w', Puts es [X] 1 → (∀ u, Blk u q 28 (flat [X]) → EOk u es) → OwnN w' 40 3 p es.length c (sflat es) → (∀ b, bl p b → w.heap.size ≤ b) → Cx w' n X ip ic T → Blk w' q 28 (flat [X]) → Fr (fun _ => False) w w' → K p es.length c w') :
    CallT Tryd.prog 11 [.slice (some ⟨q, 0, none⟩) 1 1, .int .i64 1] (.s (.one .slice)) K w :=
  F11_call (F11_spec (most := 1) (edges_X hq) rfl (Nat.le_refl _) (by simp) (by decide) (by decide) fun es p c w1 P1 k1 S1 hp1 f1 => back_slice (hk es p c w1 P1 (fun u hu => k1 u (edges_X hu)) S1.own hp1 (hC.fr0 f1) (hq.fr f1 id) f1))
/-- Steps that put the items. -/
theorem sAll {w : World} {K : Option Addr → Nat → Nat → W} (hC : Cx w n X ip ic T) (hk : ∀ es p c w', Puts es T 30 → (∀ u, Edges u ip T → EOk u es) → OwnN w' 40 3 p es.length c (sflat es) → (∀ b, bl p b → w.heap.size ≤ b) → Cx w' n X ip ic T → Fr (fun _ => False) w w' → K p es.length c w') :
    CallT Tryd.prog 11 [.slice ip T.length ic, .int .i64 30] (.s (.one .slice)) K w :=
  F11_call (F11_spec (most := 30) hC.hE rfl hC.hc (by have := hC.hb; omega) (by decide) (by decide) fun es p c w1 P1 k1 S1 hp1 f1 => back_slice (hk es p c w1 P1 k1 S1.own hp1 (hC.fr0 f1) f1))
/-- Both rows of steps, one behind the other, and all taken out. -/
theorem sApp {w : World} {p q : Option Addr} {c d : Nat} {es fs : List Ent} {ty : TypeId} {cs : Array Bool} {K : Option Addr → Nat → Nat → W} (h1 : OwnN w 40 3 p es.length c (sflat es)) (h2 : OwnN w 40 3 q fs.length d (sflat fs)) (h0 : 0 < fs.length) (hb : es.length + fs.length < 10000)
    (hk : ∀ p' c' w', OwnN w' 40 3 p' (es ++ fs).length c' (sflat (es ++ fs)) → (∀ b, bl p' b → bl p b ∨ w.heap.size ≤ b) → Fr (fun b => bl p b) w w' → Keep w w' → K p' (es ++ fs).length c' w') :
    NextT Tryd.prog (builtin .append #[33, 33] ty cs [.slice p es.length c, .slice q fs.length d].toArray) (.s (.one .slice)) K w := by
  refine append_steps h1 h2 h0 hb fun p' c' w' o' hp' f' => ?_
  have e : es.length + fs.length = (es ++ fs).length := (List.length_append ..).symm
  rw [e] at o' ⊢
  refine hk p' c' w' o' hp' f' fun t b us ht hu => hu.fr f' fun hb => ?_
  obtain ⟨vs, hv⟩ := h1.blk hb
  exact ht (hu.unique hv).1
theorem sTake {w : World} {p : Option Addr} {c N : Nat} {es : List Ent} {K : Option Addr → Nat → Nat → W} (h1 : OwnN w 40 3 p es.length c (sflat es)) (hok : EOk w es) (h0 : 0 < es.length) (hb : es.length < 90000)
    (hk : ∀ p' c' w', StepsAt w' p' (es.length + 1) c' (es ++ [tk N]) → (∀ b, bl p' b → w.heap.size ≤ b) → Fr (fun _ => False) w w' → K p' (es.length + 1) c' w') :
    CallT Tryd.prog 10 [.slice p es.length c, .int .i64 (N : Nat)] (.s (.one .slice)) K w :=
  F10_call (F10_spec (N := N) ⟨h1, hok⟩ h0 hb fun q c' w' S' hq f => back_slice (hk q c' w' S' hq f))
end
end Go.Proofs.YtbbidbjefdaagaaDoor.E
