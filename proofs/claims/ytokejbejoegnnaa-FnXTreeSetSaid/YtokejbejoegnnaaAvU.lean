/-
  Deleting, plain: paths over other blocks; what a deletion leaves; the side that is set right.
-/
import Derived.Test.YtokejbejoegnnaaAvL
namespace Go.Proofs.Ytokejbejoegnnaa.E
open Go Tr
set_option linter.unusedSimpArgs false
set_option linter.unusedVariables false
set_option maxRecDepth 100000
set_option maxHeartbeats 4000000

/-- The same path over other blocks. -/
inductive Sim : List Fm → List Fm → Prop
  | nil : Sim [] []
  | cons {b b' : Nat} {bal : Int} {d : Bool} {e : It2} {o : Tr} {R R' : List Fm} : Sim R R' → Sim (⟨b, bal, d, e, o⟩ :: R) (⟨b', bal, d, e, o⟩ :: R')
theorem Sim.refl : ∀ R, Sim R R
  | [] => .nil
  | ⟨_, _, _, _, _⟩ :: R => .cons (Sim.refl R)
theorem Sim.len {R R' : List Fm} (h : Sim R R') : R'.length = R.length := by
  induction h with
  | nil => rfl
  | cons _ ih => simp [ih]
theorem Sim.inL {R R' : List Fm} (h : Sim R R') : inL R' = inL R := by
  induction h with
  | nil => rfl
  | cons _ ih => simp only [E.inL, ih]
theorem Sim.inR {R R' : List Fm} (h : Sim R R') : inR R' = inR R := by
  induction h with
  | nil => rfl
  | cons _ ih => simp only [E.inR, ih]
theorem Sim.avl {R R' : List Fm} (h : Sim R R') {c c' : Tr} (ha : (plug R c).AVL) (hc : c'.AVL) (hh : c'.h = c.h) : (plug R' c').AVL ∧ (plug R' c').h = (plug R c).h := by
  induction h with
  | nil => exact ⟨hc, hh⟩
  | cons _ ih =>
    simp only [plug, avl_nd', h_nd'] at *
    obtain ⟨a1, a2⟩ := ih ha.1
    exact ⟨⟨a1, ha.2.1, by rw [a2]; exact ha.2.2⟩, by rw [a2]⟩
theorem Sim.trans {A B C : List Fm} (h : Sim A B) (h' : Sim B C) : Sim A C := by
  induction h generalizing C with
  | nil => cases h'; exact .nil
  | cons _ ih => cases h' with | cons h' => exact .cons (ih h')
theorem Sim.swap : ∀ (A : List Fm) (g : Fm) (n : Nat) (B : List Fm), Sim (A ++ g :: B) (A ++ { g with b := n } :: B)
  | [], ⟨_, _, _, _, _⟩, n, B => .cons (Sim.refl B)
  | ⟨_, _, _, _, _⟩ :: A, g, n, B => .cons (Sim.swap A g n B)

/-- What a deletion leaves. -/
inductive DelL (L : List It2) (q : Int) : List It2 → Option It2 → Prop
  | gone {A B : List It2} {x : It2} : L = A ++ x :: B → kx x = q → DelL L q (A ++ B) (some x)
  | not : (∀ y ∈ L, kx y ≠ q) → DelL L q L none
theorem DelL.look {L L' : List It2} {q : Int} {v : Option It2} (h : DelL L q L' v) (hL : Srt L) : v = look L q ∧ (∀ k, look L' k = if k = q then none else look L k) ∧ L'.length + (if v = none then 0 else 1) = L.length ∧ Srt L' := by
  cases h with
  | @gone A B x h hx =>
    subst h
    obtain ⟨a, b, c, d, e⟩ := srt_mid hL
    refine ⟨(look_mid (fun y hy => by have := a y hy; omega) hx).symm, fun k => ?_, by simp; omega, List.pairwise_append.2 ⟨c, d, e⟩⟩
    by_cases hk : k = q
    · rw [if_pos hk]
      refine look_none.2 fun y hy => ?_
      rcases List.mem_append.1 hy with hy | hy
      · have := a y hy; omega
      · have := b y hy; omega
    · rw [if_neg hk, look_skip (fun h => hk (h.symm.trans hx))]
  | not h =>
    refine ⟨(look_none.2 h).symm, fun k => ?_, by simp, hL⟩
    by_cases hk : k = q
    · rw [if_pos hk, hk]; exact look_none.2 h
    · rw [if_neg hk]

theorem sub_sg (d : Bool) : subI .i8 0 (- sg d) = sg d := by cases d <;> rfl
theorem wrap_sub_sg (d : Bool) : IntKind.wrap .i64 (subI .i8 0 (- sg d)) = sg d := by cases d <;> rfl
theorem sg_ne (d : Bool) : sg d ≠ 0 ∧ - sg d ≠ 0 ∧ sg d ≠ - sg d := by cases d <;> decide
/-- removeBalance. -/
theorem F75_spec {k : Value → W} {w : World} {d : Bool} {s db : Nat} {x : Int} {e : It2} {N o : Tr} (hM : TrM w (nd' d s x e N o)) (hnd : (s :: (N.bs ++ o.bs)).Nodup) (hN : N.AVL) (ho : o.AVL) (hh : N.h = o.h + 2) (hdn : Blk w db 3 [.int .i64 0])
    (hk : ∀ R v w', R.AVL → R.h = (if v = true then N.h else N.h + 1) → R.list = lst d N.list e o.list → TrM w' R → R.bs.Nodup → (∀ b ∈ R.bs, b = s ∨ b ∈ N.bs ∨ b ∈ o.bs ∨ w.heap.size ≤ b) → Blk w' db 3 [.int .i64 (if v = true then 0 else 1)] → Fr (fun b => b = s ∨ b ∈ N.bs ∨ b = db) w w' → k (.pointer R.ptr) w') : F75 k (some ⟨s, 0, none⟩) (dI (!d)) (some ⟨db, 0, none⟩) w := by
  have ph := h_pos o
  rcases nd_cases N d with rfl | ⟨n0, nb, e2, c2, o2, rfl⟩
  · simp only [Tr.h] at hh; omega
  have hlt := hM.lt
  have hM' := hM
  rw [trm_nd', trm_nd', ptr_nd'] at hM'
  obtain ⟨hs, ⟨hn, hc2, ho2⟩, hoM⟩ := hM'
  unfold F75
  refine drw_intro fun w1 f1 z1 => ?_
  try simp only [NN_mk]
  refine F80_call ?_
  unfold F80
  refine back_int ?_
  rw [opp', adr]
  have hs1 := hs.fr f1 id
  refine ⟨dI_ok d, load_ptr hs1 (ncl_c ..) ?_⟩
  refine F68_call (F68_nd' (hn.fr f1 id) fun n w2 hn2 b2 f2 => back_ptr ?_)
  refine drw_intro fun w3 f3 z3 => ?_
  have f03 := (f1.trans f2 fun _ h => h.elim).trans f3 fun _ h => h.elim
  have hs3 := hs.fr f03 id
  have n3 := b2.fr f3 id
  try simp only [NN_mk]
  refine F80_call ?_
  unfold F80
  refine back_int ?_
  rw [opp', adr]
  refine ⟨dI_ok d, store_intro hs3 (by rw [ncl_len]; exact sd_lt d) rfl fun w4 b4 f4 z4 => ?_⟩
  rw [ncl_set_c] at b4
  have hnw : w.heap.size ≤ n := by have := f1.size; omega
  have hsn : s ≠ n := by have := hs.lt; omega
  have hdlt := hdn.lt
  have hds : db ≠ s := fun h => by rw [h] at hdn; exact absurd (hdn.unique hs).1 (by decide)
  have n4 := n3.fr f4 fun h => hsn h.symm
  have d4 := (hdn.fr f03 id).fr f4 hds
  have hnd0 := hnd
  simp only [List.nodup_cons, List.mem_append, not_or] at hnd0
  obtain ⟨⟨q1, q2⟩, q3⟩ := hnd0
  have hmem : ∀ b, b ∈ (nd' d n0 nb e2 c2 o2).bs ↔ b = n0 ∨ b ∈ c2.bs ∨ b ∈ o2.bs := fun b => by
    rw [(bs_nd' ..).mem_iff]; simp [List.mem_append]
  have hmem' : ∀ b, b ∈ (nd' d n nb e2 c2 o2).bs ↔ b = n ∨ b ∈ c2.bs ∨ b ∈ o2.bs := fun b => by
    rw [(bs_nd' ..).mem_iff]; simp [List.mem_append]
  rw [hmem, not_or, not_or] at q1
  have f04 : Fr (fun b => b = s) w w4 := (f03.mono fun _ h => h.elim).trans f4 fun b h => .inl h
  have hc4 : TrM w4 c2 := hc2.fr f04 fun b hb h => q1.2.1 (by have : b = s := h; exact this ▸ hb)
  have ho4 : TrM w4 o2 := ho2.fr f04 fun b hb h => q1.2.2 (by have : b = s := h; exact this ▸ hb)
  have hoo : TrM w4 o := hoM.fr f04 fun b hb h => q2 (by have : b = s := h; exact this ▸ hb)
  have hM4 : TrM w4 (nd' d s x e (nd' d n nb e2 c2 o2) o) := by
    rw [trm_nd', trm_nd', ptr_nd']
    exact ⟨b4, ⟨n4, hc4, ho4⟩, hoo⟩
  have hold : ∀ b, b ∈ c2.bs ∨ b ∈ o2.bs ∨ b ∈ o.bs → b < w.heap.size := fun b hb => by
    refine hlt b ?_
    rw [(bs_nd' ..).mem_iff]
    simp only [List.mem_cons, List.mem_append, hmem]
    rcases hb with h | h | h
    · exact .inr (.inl (.inr (.inl h)))
    · exact .inr (.inl (.inr (.inr h)))
    · exact .inr (.inr h)
  have hnd4 : (s :: n :: (c2.bs ++ o2.bs ++ o.bs)).Nodup := by
    have h1 : (s :: n0 :: (c2.bs ++ o2.bs ++ o.bs)).Nodup := nodup_of hnd fun a => by simp only [List.count_cons, List.count_append, cnt_nd']; omega
    simp only [List.nodup_cons, List.mem_cons, List.mem_append, not_or] at h1 ⊢
    refine ⟨⟨hsn, h1.1.2⟩, ⟨⟨fun h => ?_, fun h => ?_⟩, fun h => ?_⟩, h1.2.2⟩
    · have := hold n (.inl h); omega
    · have := hold n (.inr (.inl h)); omega
    · have := hold n (.inr (.inr h)); omega
  have hN4 : (nd' d n nb e2 c2 o2).AVL ∧ (nd' d n nb e2 c2 o2).h = (nd' d n0 nb e2 c2 o2).h ∧ (nd' d n nb e2 c2 o2).list = (nd' d n0 nb e2 c2 o2).list := by
    refine ⟨?_, by rw [h_nd', h_nd'], by rw [list_nd', list_nd']⟩
    rw [avl_nd'] at hN ⊢; exact hN
  have fin : ∀ {R : Tr} {v : Bool} {w' : World}, RotB d s e o (nd' d n nb e2 c2 o2) R v → TrM w' R → Blk w' db 3 [.int .i64 (if v = true then 0 else 1)] → Fr (fun b => b = s ∨ b = n ∨ b ∈ c2.bs ∨ b ∈ o2.bs ∨ b = db) w4 w' → k (.pointer R.ptr) w' := by
    intro R v w' hR hRM hD hF
    obtain ⟨r1, r2, r3⟩ := hR.ok hN4.1 ho (by rw [hN4.2.1]; exact hh)
    have hp := hR.bs
    refine hk R v w' r1 (by rw [r2, hN4.2.1]) (by rw [r3, hN4.2.2]) hRM ?_ (fun b hb => ?_) hD ?_
    · refine hp.nodup_iff.2 (nodup_of hnd4 fun a => ?_)
      simp only [List.count_cons, List.count_append, cnt_nd']; omega
    · have := hp.mem_iff.1 hb
      simp only [List.mem_cons, List.mem_append, hmem'] at this
      simp only [hmem]
      rcases this with h | (h | h) | h
      · exact .inl h
      · exact .inr (.inr (.inr (by omega)))
      · exact .inr (.inl (.inr h))
      · exact .inr (.inr (.inl h))
    · refine (f04.mono fun b h => .inl (.inl h)).trans hF fun b h => ?_
      simp only [hmem]
      rcases h with h | h | h | h | h
      · exact .inl (.inl h)
      · exact .inr (by omega)
      · exact .inl (.inr (.inl (.inr (.inl h))))
      · exact .inl (.inr (.inl (.inr (.inr h))))
      · exact .inl (.inr (.inr h))
  have hdb : db ≠ n := by omega
  have hA := (avl_nd' ..).1 hN
  have dnot : ∀ b, b = s ∨ b = n ∨ b ∈ c2.bs ∨ b ∈ o2.bs → b ≠ db := fun b hb h => by
    subst h
    rcases hb with h | h | h | h
    · exact hds h
    · exact hdb h
    · obtain ⟨us, hu⟩ := blk_of hc4 h
      exact absurd (hu.unique d4).1 (by decide)
    · obtain ⟨us, hu⟩ := blk_of ho4 h
      exact absurd (hu.unique d4).1 (by decide)
  have pick : F75_J1 k (some ⟨s, 0, none⟩) (dI (!d)) (some ⟨db, 0, none⟩) (some ⟨n, 0, none⟩) (- sg d) w4 := by
    unfold F75_J1
    simp only [NN_mk]
    refine load_int n4 (ncl_bal ..) ?_
    rw [sub_sg, wrap_sg64]
    by_cases hsg : nb = sg d
    · rw [show (nb == sg d) = true by simpa using hsg]
      simp only [BIf_true, NN_mk]
      refine rot_single (k := k) hM4 hnd4 0 0 (fun w1 h => h) fun w' hR f => ?_
      have := fin (.single hsg) hR (d4.fr f fun h => dnot db (h.imp id .inl) rfl) (f.mono fun b h => .inl (h.imp id .inl))
      rwa [ptr_nd'] at this
    rw [show (nb == sg d) = false by simpa using hsg]
    simp only [BIf_false, NN_mk]
    refine load_int n4 (ncl_bal ..) ?_
    by_cases hsg' : nb = - sg d
    · rw [show (nb == - sg d) = true by simpa using hsg']
      simp only [BIf_true]
      refine F80_call ?_
      unfold F80
      refine back_int ?_
      rw [opp']
      have hno : nd' d n nb e2 c2 o2 = nd' (!d) n nb e2 o2 c2 := by cases d <;> rfl
      have ho2 : o2.h = c2.h + 1 := by
        have := hA.2.2.1
        rcases sg_cases d with g | g <;> rw [g] at this hsg' <;> simp only [Int.one_mul, Int.neg_mul] at this <;> omega
      have pc := h_pos c2
      rcases nd_cases o2 d with rfl | ⟨g, b3, e3, X, Y, rfl⟩
      · simp only [Tr.h] at ho2; omega
      rw [hno] at hM4 fin
      have hA2 := (avl_nd' ..).1 hA.2.1
      have hnd2 : (s :: n :: g :: (X.bs ++ Y.bs ++ c2.bs ++ o.bs)).Nodup := nodup_of hnd4 fun a => by simp only [List.count_cons, List.count_append, cnt_nd']; omega
      have hg : g ∈ (nd' d g b3 e3 X Y).bs := (bs_nd' ..).mem_iff.2 (by simp)
      refine rot_double (k := k) hM4 hnd2 hA2.2.2.2 (fun w1 h => h) fun bs bn w' k1 k2 k3 hR f => ?_
      have := fin (.double hsg' k1 k2 k3) hR (d4.fr f fun h => dnot db (by
        rcases h with h | h | h
        · exact .inl h
        · exact .inr (.inl h)
        · exact .inr (.inr (.inr (h ▸ hg)))) rfl) (f.mono fun b h => .inl (by
        rcases h with h | h | h
        · exact .inl h
        · exact .inr (.inl h)
        · exact .inr (.inr (.inr (.inl (h ▸ hg))))))
      rwa [ptr_nd'] at this
    · rw [show (nb == - sg d) = false by simpa using hsg']
      simp only [BIf_false, NN_mk]
      have h0 : nb = 0 := by rcases sg_cases d with g | g <;> omega
      subst h0
      refine rot_single (k := fun v => Store1 ⟨db, 0, none⟩ (.int .i64 1) (k v)) hM4 hnd4 (sg d) (- sg d) (fun w1 h => h) fun w' hR f => ?_
      have d5 : Blk w' db 3 [.int .i64 0] := d4.fr f fun h => dnot db (h.imp id .inl) rfl
      refine store_intro d5 (by simp) rfl fun w6 b6 f6 z6 => ?_
      have hR6 : TrM w6 (nd' (!d) n (- sg d) e2 (nd' d s (sg d) e o2 o) c2) := hR.fr f6 fun b hb h => by
        have h : b = db := h
        obtain ⟨us, hu⟩ := blk_of hR hb
        rw [h] at hu
        exact absurd (hu.unique d5).1 (by decide)
      have := fin (.level) hR6 b6 ((f.mono fun b h => .inl (h.imp id .inl)).trans f6 fun b h => .inl (.inr (.inr (.inr (.inr h)))))
      rwa [ptr_nd'] at this
  have pk := pick
  cases d
  · exact pk
  · exact pk
end Go.Proofs.Ytokejbejoegnnaa.E
