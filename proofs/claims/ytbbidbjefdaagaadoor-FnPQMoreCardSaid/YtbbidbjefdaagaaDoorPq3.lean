/-
  Elements got from the queue.
-/
import Derived.Test.YtbbidbjefdaagaaDoorPq2
namespace Go.Proofs.YtbbidbjefdaagaaDoor.E
open Go
set_option linter.unusedSimpArgs false
set_option linter.unusedVariables false
set_option maxRecDepth 100000
set_option maxHeartbeats 4000000

/-- What has been got: so many, in order, none greater than what is left. -/
def Got (C : List It2) (ys D : List It2) : Prop := (ys ++ D).Perm C ∧ Up ys ∧ ∀ y ∈ ys, ∀ x ∈ D, key y ≤ key x
def GetI (w : World) (qb q c l : Nat) (f : Nat → It2) (rs : List Value) (i : Nat) (p' : Option Addr) (c' : Nat) (w' : World) : Prop :=
  ∃ (ys : List It2) (g : Nat → It2), i ≤ l ∧ Own w' 81 p' i c' (encs ys) ∧ Blk w' qb 70 (.slice (some ⟨q, 0, none⟩) (l - i) c :: rs) ∧ AR w' q c (l - i) g ∧ HeapOn g (l - i) ∧ Got (seg f 0 l) ys (seg g 0 (l - i)) ∧ (∀ b, bl p' b → w.heap.size ≤ b) ∧ Fr (fun b => b = qb ∨ b = q) w w'
theorem F48_spec {k : Value → W} {w : World} {qb q l c N : Nat} {f : Nat → It2} {rs : List Value} (hH : Blk w qb 70 (.slice (some ⟨q, 0, none⟩) l c :: rs)) (hO : AR w q c l f) (hh : HeapOn f l) (hl : l < 100000) (hN : N < 100000)
    (hk : ∀ p' c' w', GetI w qb q c l f rs (min N l) p' c' w' → k (.slice p' (min N l) c') w') : F48 k (some ⟨qb, 0, none⟩) (N : Nat) w := by
  unfold F48
  obtain ⟨i81, a1, a2, a3, a4⟩ := inf81
  refine make_intro 0 N und66 a1 a2 a3 rfl (by omega) (by omega) (by omega) fun w1 f1 o1 b1 z1 => ?_
  have hqw : ∀ b, (b = qb ∨ b = q) → b < w.heap.size := fun b h => by
    obtain ⟨us, hu⟩ := hO.blk
    rcases h with rfl | rfl
    · exact hH.lt
    · exact hu.lt
  have h0 : GetI w qb q c l f rs 0 (some ⟨w.heap.size, 0, none⟩) N w1 := by
    refine ⟨[], f, Nat.zero_le _, o1, ?_, ?_, ?_, ⟨.refl _, List.Pairwise.nil, fun y hy => absurd hy (List.not_mem_nil)⟩, fun b hb => ?_, f1.mono fun _ h => h.elim⟩
    · rw [Nat.sub_zero]; exact hH.fr f1 id
    · rw [Nat.sub_zero]; exact hO.fr0 f1
    · rw [Nat.sub_zero]; exact hh
    · obtain ⟨a, ha, hb⟩ := hb; cases ha; exact Nat.le_of_eq hb
  refine F48_L1_rule (fun it nn rp rl rc x7 w' => it = some ⟨qb, 0, none⟩ ∧ nn = (N : Nat) ∧ ∃ i : Nat, x7 = i ∧ i ≤ N ∧ rl = i ∧ GetI w qb q c l f rs i rp rc w')
    (fun _ nn _ _ _ x7 _ => (nn - x7).toNat) ?_ ⟨rfl, rfl, 0, rfl, Nat.zero_le _, rfl, h0⟩
  rintro it nn rp rl rc x7 w2 ⟨rfl, rfl, i, rfl, hi, e1, ys, g, hil, o2, H2, h2, hh2, ⟨pm, up, le⟩, hp2, f2⟩
  obtain rfl := e1.symm
  unfold F48_L1
  by_cases hiN : i < N
  rotate_left
  · have : i = N := by omega
    subst this
    rw [decide_eq_false (by omega)]
    simp only [BIf_false]
    have hm : min i l = i := by omega
    have := hk rp rc w2 (by rw [hm]; exact ⟨ys, g, hil, o2, H2, h2, hh2, ⟨pm, up, le⟩, hp2, f2⟩)
    rw [hm] at this; exact this
  rw [decide_eq_true (by omega)]
  simp only [BIf_true, NN_mk]
  refine load_slice H2 rfl ?_
  by_cases hz : l - i = 0
  · rw [show (((l - i : Nat) : Int) == 0) = true by rw [hz]; rfl]
    simp only [BIf_true]
    have hm : min N l = i := by omega
    have := hk rp rc w2 (by rw [hm]; exact ⟨ys, g, hil, o2, H2, h2, hh2, ⟨pm, up, le⟩, hp2, f2⟩)
    rw [hm] at this; exact this
  rw [show (((l - i : Nat) : Int) == 0) = false by rw [beq_eq_false_iff_ne]; omega]
  simp only [BIf_false]
  obtain ⟨m, hm⟩ : ∃ m, l - i = m + 1 := ⟨l - i - 1, by omega⟩
  rw [hm] at H2 h2 hh2 pm le
  have hm' : l - (i + 1) = m := by omega
  refine F51_call (F51_spec H2 h2 hh2 (by omega) fun g' w3 H3 h3 hh3 pm3 f3 => back_any ?_)
  have o3 := o2.fr f3 fun b hb e => by have h1 := hp2 b hb; have h2 := hqw b e; omega
  rw [add_one (by omega)]
  refine append1 (P := Tryd.prog) und66 a1 a2 a3 rfl (by omega) o3 rfl rfl (by omega) fun p4 c4 w4 f4 o4 hp4 hs4 => ?_
  have hne : ∀ b, bl rp b → ¬ (b = qb ∨ b = q) := fun b hb e => by have h1 := hp2 b hb; have h2 := hqw b e; omega
  refine ⟨⟨(by trivial), (by trivial), i + 1, rfl, by omega, (by trivial), ys ++ [g 0], g', by omega, ?_, ?_, ?_, ?_, ⟨?_, ?_, ?_⟩, ?_, (f2.trans f3 fun b h => .inl h).trans f4 fun b h => .inr (hp2 b h)⟩, by omega⟩
  · rw [encs_append]; exact o4
  · rw [hm']; exact H3.fr f4 fun h => hne _ h (.inl rfl)
  · rw [hm']; exact Own.fr h3 f4 fun b hb h => hne b h (by obtain ⟨a, ha, hb⟩ := hb; cases ha; exact .inr hb.symm)
  · rw [hm']; exact hh3
  · rw [hm', List.append_assoc]
    exact (pm3.append_left ys).trans pm
  · unfold Up
    rw [List.pairwise_append]
    refine ⟨up, List.pairwise_singleton .., fun a ha b hb => ?_⟩
    simp only [List.mem_singleton] at hb
    subst hb
    exact le a ha _ (pm3.mem_iff.1 (List.mem_cons_self ..))
  · rw [hm']
    intro y hy x hx
    have hx' := pm3.mem_iff.1 (List.mem_cons_of_mem _ hx)
    rcases List.mem_append.1 hy with hy | hy
    · exact le y hy x hx'
    · simp only [List.mem_singleton] at hy
      subst hy
      exact heap_le hh2 hx'
  · intro b hb
    rcases hp4 b hb with h | h
    · exact hp2 b h
    · have := (f2.trans f3 fun b h => .inl h).size; omega

/-- What has been got is no longer a key. -/
theorem F47_spec {k : Value → W} {w : World} {qb mb n : Nat} {ys ks : List It2} {p : Option Addr} {c : Nat} {x y z : Value} (hI : Its w p ys) (hip : ∀ b, bl p b → b ≠ mb) (hn : Blk w n 50 [.pointer (some ⟨qb, 0, none⟩)]) (hH : Blk w qb 70 [x, .map (some mb), y, z]) (hM : MapB w mb enc (elems ks)) (hl : ys.length < 100000)
    (hk : ∀ w', MapB w' mb enc (elems (ys.foldl List.erase ks)) → Fr (fun b => b = mb) w w' → k (.tuple #[]) w') : F47 k p ys.length c ⟨n, 0, none⟩ w := by
  unfold F47
  refine F47_L1_rule (fun ad sp sl sc x8 x9 w' => ad = ⟨n, 0, none⟩ ∧ sp = p ∧ sl = ys.length ∧ x8 = (ys.length : Nat) ∧ ∃ i : Nat, x9 = i ∧ i ≤ ys.length ∧ MapB w' mb enc (elems ((ys.take i).foldl List.erase ks)) ∧ Fr (fun b => b = mb) w w')
    (fun _ _ _ _ x8 x9 _ => (x8 - x9).toNat) ?_ ⟨rfl, rfl, rfl, rfl, 0, rfl, Nat.zero_le _, hM, Fr.refl _ _⟩
  rintro ad sp sl sc x8 x9 w2 ⟨rfl, e1, e2, rfl, i, rfl, hi, M2, f2⟩
  obtain rfl := e1.symm; obtain rfl := e2.symm
  unfold F47_L1
  by_cases hil : i < ys.length
  rotate_left
  · have : i = ys.length := by omega
    subst this
    rw [decide_eq_false (by omega)]
    rw [List.take_length] at M2
    simp only [BIf_false]
    exact hk w2 M2 f2
  rw [decide_eq_true (by omega)]
  have hget : ys[i]? = some (ys[i]'(by omega)) := List.getElem?_eq_getElem _
  generalize ys[i]'(by omega) = v at hget
  obtain ⟨a, rfl, hc⟩ := hI.fr f2 (fun b hb e => hip b hb e) i v hget
  simp only [BIf_true, NN_mk, Int.toNat_natCast]
  refine ⟨by omega, LoadT_any.2 ⟨_, hc, ?_⟩⟩
  have n2 := hn.fr f2 fun e => hM.not_blk hn (by have : n = mb := e; exact this.symm)
  have H2 := hH.fr f2 fun e => hM.not_blk hH (by have : qb = mb := e; exact this.symm)
  refine load_ptr n2 rfl ?_
  simp only [NN_mk]
  refine load_map (i := 1) H2 rfl ?_
  refine delete_intro und68 keyE M2 fun w3 m3 f3 z3 => ?_
  rw [add_one (by omega)]
  rw [delL_elems] at m3
  refine ⟨⟨(by trivial), (by trivial), (by trivial), (by trivial), i + 1, rfl, by omega, ?_, f2.trans f3 fun b h => .inl h⟩, by omega⟩
  rw [take_snoc hget, List.foldl_append]; exact m3

theorem back_pair {f : Option Addr → Nat → Nat → Value → W} {p : Option Addr} {l c : Nat} {v : Value} {w : World} (h : f p l c v w) : Back (.tup [(.one .slice), (.one .any)]) f (.returned (.tuple #[.slice p l c, v])) w := ⟨((p, l, c), v, ()), rfl, h⟩
/-- Get. -/
theorem F36_spec {k : Value → W} {w : World} {qb mb q l c N : Nat} {dup : Bool} {f : Nat → It2} {ks : List It2} (hQ : PQ w qb mb q l c dup f ks) (hl : l < 100000) (h0 : 0 < N) (hN : N < 100000)
    (hk : ∀ ys p' c' l' g ks' w', PQ w' qb mb q l' c dup g ks' → Got (seg f 0 l) ys (seg g 0 l') → ys.length = min N l → Own w' 81 p' (min N l) c' (encs ys) → (∀ b, bl p' b → w.heap.size ≤ b) → Fr (fun b => b = qb ∨ b = mb ∨ b = q) w w' → k (.tuple #[.slice p' (min N l) c', .nilIface]) w') : F36 k (some ⟨qb, 0, none⟩) (N : Nat) w := by
  unfold F36
  refine new_intro fun n w1 e1 b1 f1 z1 => ?_
  have Q1 := hQ.fr0 f1
  rw [decide_eq_false (by omega)]
  simp only [BIf_false]
  refine load_ptr b1 rfl ?_
  simp only [NN_mk]
  refine load_bool (i := 2) Q1.head rfl ?_
  simp only [BIf_false]
  refine load_ptr b1 rfl ?_
  simp only [NN_mk]
  refine F48_call (F48_spec Q1.head Q1.own Q1.heap hl hN fun p' c' w2 hG => back_slice ?_)
  obtain ⟨ys, g, hil, o2, H2, h2, hh2, got, hp2, f2⟩ := hG
  have hyl : ys.length = min N l := by have := o2.1; simpa using this
  have hn2 : ∀ b, (b = qb ∨ b = mb ∨ b = q) → b < w.heap.size := fun b h => hQ.lt h
  have b2 := b1.fr f2 fun h => by
    rcases h with h | h
    · have := hn2 n (.inl h); omega
    · have := hn2 n (.inr (.inr h)); omega
  have M2 := Q1.map.fr f2 fun h => by
    rcases h with h | h
    · exact Q1.ne2 h
    · exact Q1.ne3 h
  rw [← hyl]
  refine F47_call (F47_spec o2.its (fun b hb e => ?_) b2 H2 M2 (by omega) fun w3 M3 f3 => back0 ?_)
  · have h1 := hp2 b hb
    have h2 := hn2 mb (.inr (.inl rfl))
    omega
  · have hok := Q1.ok.erase got.1
    have hm3 : ∀ b, (b = qb ∨ b = q) → ¬ b = mb := fun b h e => by
      rcases h with h | h
      · exact Q1.ne2 (e.symm.trans h)
      · exact Q1.ne3 (e.symm.trans h)
    have o3 : Own w3 81 p' (min N l) c' (encs ys) := o2.fr f3 fun b hb e => by
      have h1 := hp2 b hb
      have h2 := hn2 b (.inr (.inl e))
      omega
    have := hk ys p' c' (l - min N l) g _ w3 ⟨H2.fr f3 (hm3 _ (.inl rfl)), Own.fr h2 f3 fun b hb => hm3 b (by obtain ⟨a, ha, hb⟩ := hb; cases ha; exact .inr hb.symm), hh2, M3, hok⟩ got hyl o3 (fun b hb => by have := hp2 b hb; omega) (((f1.mono fun _ h => h.elim).trans f2 fun b h => .inl (h.elim .inl fun h => .inr (.inr h))).trans f3 fun b h => .inl (.inr (.inl h)))
    rw [hyl]; exact this
end Go.Proofs.YtbbidbjefdaagaaDoor.E
