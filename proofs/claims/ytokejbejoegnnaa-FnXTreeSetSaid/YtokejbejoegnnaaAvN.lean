/-
  Balanced trees in memory: copies, new nodes, balances adjusted, rotations chosen.
-/
import Derived.Test.YtokejbejoegnnaaAvM
namespace Go.Proofs.Ytokejbejoegnnaa.E
open Go Tr
set_option linter.unusedSimpArgs false
set_option linter.unusedVariables false
set_option maxRecDepth 100000
set_option maxHeartbeats 2000000

theorem F71_spec {k : Value → W} {w : World} {a b : Int} (hk : k (.int .i64 (if a < b then 1 else if b < a then 0 else -1)) w) : F71 k (cmpI a b) w := by
  unfold F71 cmpI
  by_cases h : a < b
  · rw [if_pos h] at *
    simpa using hk
  · rw [if_neg h] at *
    by_cases h' : b < a
    · rw [if_pos h'] at *
      simpa using hk
    · rw [if_neg h'] at *
      simpa using hk
theorem F69_spec {k : Value → W} {w : World} {v : Value} (hv : oneC v = true) (hk : ∀ n w', n = w.heap.size → Blk w' n 119 [.int .i8 0, .pointer none, .pointer none, v] → Fr (fun _ => False) w w' → w'.heap.size = n + 1 → k (.pointer (some ⟨n, 0, none⟩)) w') : F69 k v w := by
  unfold F69
  exact ⟨hv, new_intro fun n w1 e1 b1 f1 z1 => hk n w1 e1 b1 f1 z1⟩
/-- copy, of a node. -/
theorem F68_spec {k : Value → W} {w : World} {b : Nat} {bal : Int} {e : It2} {l r : Option Addr} (hB : Blk w b 119 (ncell bal l r e)) (hk : ∀ n w', w.heap.size ≤ n → Blk w' n 119 (ncell bal l r e) → Fr (fun _ => False) w w' → k (.pointer (some ⟨n, 0, none⟩)) w') : F68 k (some ⟨b, 0, none⟩) w := by
  unfold F68
  refine drw_intro fun w1 f1 z1 => ?_
  have B1 := hB.fr f1 id
  simp only [NN_mk]
  refine load_int (i := 0) B1 rfl ?_
  refine ⟨by decide, load_ptr (i := 1) B1 rfl ⟨by decide, load_ptr (i := 2) B1 rfl ?_⟩⟩
  refine load_any (i := 3) B1 rfl ⟨rfl, ?_⟩
  refine new_intro fun n w2 e2 b2 f2 z2 => ?_
  have B2 := B1.fr f2 id
  refine ⟨by show w2.cell? ⟨b, 3, none⟩ = _; rw [B2.cell]; rfl, by show w2.cell? ⟨b, 2, none⟩ = _; rw [B2.cell]; rfl, by show w2.cell? ⟨b, 1, none⟩ = _; rw [B2.cell]; rfl, by rw [B2.cell]; rfl, ?_⟩
  exact hk n w2 (by omega) b2 (f1.trans f2 fun _ h => h.elim)
theorem F68_nd' {k : Value → W} {w : World} {d : Bool} {b : Nat} {bal : Int} {e : It2} {c o : Option Addr} (hB : Blk w b 119 (ncl d bal e c o)) (hk : ∀ n w', w.heap.size ≤ n → Blk w' n 119 (ncl d bal e c o) → Fr (fun _ => False) w w' → k (.pointer (some ⟨n, 0, none⟩)) w') : F68 k (some ⟨b, 0, none⟩) w := by
  cases d
  · exact F68_spec hB hk
  · exact F68_spec hB hk
theorem wrap_sg (d : Bool) : IntKind.wrap .i8 (subI .i64 0 (sg d)) = - sg d := by cases d <;> rfl
theorem wrap_sg' (d : Bool) : IntKind.wrap .i8 (sg d) = sg d := by cases d <;> rfl
theorem wrap_sg64 (d : Bool) : IntKind.wrap .i64 (sg d) = sg d := by cases d <;> rfl
/-- adjustBalance. -/
theorem F81_spec {k : Value → W} {w : World} {d : Bool} {b c g : Nat} {x y z : Int} {e e2 e3 : It2} {X Y o o2 : Option Addr} (hP : Blk w b 119 (ncl d x e (some ⟨c, 0, none⟩) o)) (hC : Blk w c 119 (ncl (!d) y e2 (some ⟨g, 0, none⟩) o2)) (hG : Blk w g 119 (ncl d z e3 X Y)) (h1 : b ≠ c) (h2 : b ≠ g) (h3 : c ≠ g) (hz : -1 ≤ z ∧ z ≤ 1)
    (hk : ∀ bs bn w', (z = 0 → bs = 0 ∧ bn = 0) → (z ≠ 0 → z = sg d → bs = - sg d ∧ bn = 0) → (z ≠ 0 → z ≠ sg d → bs = 0 ∧ bn = sg d) → Blk w' b 119 (ncl d bs e (some ⟨c, 0, none⟩) o) → Blk w' c 119 (ncl (!d) bn e2 (some ⟨g, 0, none⟩) o2) → Blk w' g 119 (ncl d 0 e3 X Y) → Fr (fun v => v = b ∨ v = c ∨ v = g) w w' → k (.tuple #[]) w') : F81 k (some ⟨b, 0, none⟩) (dI d) (sg d) w := by
  unfold F81
  simp only [NN_mk, adr]
  refine ⟨dI_ok d, load_ptr hP (ncl_c ..) ?_⟩
  refine drw_intro fun w1 f1 z1 => ?_
  have P1 := hP.fr f1 id
  have C1 := hC.fr f1 id
  have G1 := hG.fr f1 id
  simp only [NN_mk]
  refine F80_call ?_
  unfold F80
  refine back_int ?_
  rw [opp, adr]
  refine ⟨dI_ok (!d), load_ptr C1 (ncl_c ..) ?_⟩
  simp only [NN_mk]
  refine load_int G1 (ncl_bal ..) ?_
  -- the three stores
  have fin : ∀ bs bn : Int, (z = 0 → bs = 0 ∧ bn = 0) → (z ≠ 0 → z = sg d → bs = - sg d ∧ bn = 0) → (z ≠ 0 → z ≠ sg d → bs = 0 ∧ bn = sg d) →
      (Store1 ⟨b, 0, none⟩ (.int .i8 bs) <| Store1 ⟨c, 0, none⟩ (.int .i8 bn) <| F81_J1 k (some ⟨g, 0, none⟩)) w1 := by
    intro bs bn k1 k2 k3
    refine store_intro P1 (by rw [ncl_len]; decide) rfl fun w2 b2 f2 z2 => ?_
    rw [ncl_set_bal] at b2
    have C2 := C1.fr f2 fun h => h1 h.symm
    have G2 := G1.fr f2 fun h => h2 h.symm
    refine store_intro C2 (by rw [ncl_len]; decide) rfl fun w3 b3 f3 z3 => ?_
    rw [ncl_set_bal] at b3
    have P3 := b2.fr f3 h1
    have G3 := G2.fr f3 fun h => h3 h.symm
    unfold F81_J1
    simp only [NN_mk]
    refine store_intro G3 (by rw [ncl_len]; decide) rfl fun w4 b4 f4 z4 => ?_
    rw [ncl_set_bal] at b4
    exact hk bs bn w4 k1 k2 k3 (P3.fr f4 h2) (b3.fr f4 h3) b4 ((((f1.mono fun _ h => h.elim).trans f2 fun v h => .inl (.inl h)).trans f3 fun v h => .inl (.inr (.inl h))).trans f4 fun v h => .inl (.inr (.inr h)))
  by_cases z0 : z = 0
  · subst z0
    simp only [show ((0 : Int) == 0) = true from rfl, BIf_true, NN_mk]
    exact fin 0 0 (fun _ => ⟨rfl, rfl⟩) (fun h => absurd rfl h) fun h => absurd rfl h
  · rw [show (z == 0) = false by simpa using z0]
    simp only [BIf_false, NN_mk]
    refine load_int G1 (ncl_bal ..) ?_
    rw [wrap_i64 (by omega) (by omega)]
    by_cases zs : z = sg d
    · rw [show (z == sg d) = true by simpa using zs]
      simp only [BIf_true, NN_mk, wrap_sg]
      exact fin (- sg d) 0 (fun h => absurd h z0) (fun _ _ => ⟨rfl, rfl⟩) fun _ h => absurd zs h
    · rw [show (z == sg d) = false by simpa using zs]
      simp only [BIf_false, NN_mk, wrap_sg']
      exact fin 0 (sg d) (fun h => absurd h z0) (fun _ h => absurd h zs) fun _ _ => ⟨rfl, rfl⟩
/-- A node whose child at side d is by two higher, set right; the last of what is asked tells which nodes may be changed. -/
theorem rot_single {k : Value → W} {w : World} {d : Bool} {s n : Nat} {x nb : Int} {e e2 : It2} {o c2 o2 : Tr} (hM : TrM w (nd' d s x e (nd' d n nb e2 c2 o2) o)) (hnd : (s :: n :: (c2.bs ++ o2.bs ++ o.bs)).Nodup)
    (v1 v2 : Int) {Q : W} (hQ : ∀ w, CallT Try.prog 79 [.pointer (some ⟨s, 0, none⟩), .int .i64 (dI (!d))] (.s (.one .ptr)) (fun p => k (.pointer p)) w → Q w) (hk : ∀ w', TrM w' (nd' (!d) n v2 e2 (nd' d s v1 e o2 o) c2) → Fr (fun v => v = s ∨ v = n) w w' → k (.pointer (some ⟨n, 0, none⟩)) w') :
    (Store1 ⟨s, 0, none⟩ (.int .i8 v1) <| Store1 ⟨n, 0, none⟩ (.int .i8 v2) Q) w := by
  rw [trm_nd', trm_nd', ptr_nd'] at hM
  obtain ⟨hs, ⟨hn, hc2, ho2⟩, ho⟩ := hM
  simp only [List.nodup_cons, List.mem_cons, List.mem_append, not_or] at hnd
  obtain ⟨⟨d1, d2, d3⟩, ⟨d4, d5⟩, d6⟩ := hnd
  refine store_intro hs (by rw [ncl_len]; decide) rfl fun w1 s1 f1 z1 => ?_
  rw [ncl_set_bal] at s1
  have n1 := hn.fr f1 fun h => d1 h.symm
  refine store_intro n1 (by rw [ncl_len]; decide) rfl fun w2 n2 f2 z2 => ?_
  rw [ncl_set_bal] at n2
  have s2 := s1.fr f2 d1
  rw [← ncl_turn] at n2
  refine hQ w2 (F79_call (F79_spec s2 n2 d1 fun w3 s3 n3 f3 => back_ptr ?_))
  have f03 : Fr (fun v => v = s ∨ v = n) w w3 := ((f1.mono fun v h => .inl (.inl h)).trans f2 fun v h => .inl (.inr h)).trans f3 fun v h => .inl h
  refine hk w3 ?_ f03
  rw [trm_nd', trm_nd', ptr_nd']
  refine ⟨n3, ⟨s3, ho2.fr f03 fun v hv h => ?_, ho.fr f03 fun v hv h => ?_⟩, hc2.fr f03 fun v hv h => ?_⟩
  · rcases h with rfl | rfl
    · exact d2.2 hv
    · exact d4.2 hv
  · rcases h with rfl | rfl
    · exact d3 hv
    · exact d5 hv
  · rcases h with rfl | rfl
    · exact d2.1 hv
    · exact d4.1 hv
theorem rot_double {k : Value → W} {w : World} {d : Bool} {s n g : Nat} {x nb b3 : Int} {e e2 e3 : It2} {o o2 X Y : Tr} (hM : TrM w (nd' d s x e (nd' (!d) n nb e2 (nd' d g b3 e3 X Y) o2) o)) (hnd : (s :: n :: g :: (X.bs ++ Y.bs ++ o2.bs ++ o.bs)).Nodup) (hb3 : -1 ≤ b3 ∧ b3 ≤ 1)
    {Q : W} (hQ : ∀ w, CallT Try.prog 82 [.pointer (some ⟨s, 0, none⟩), .int .i64 (dI (!d))] (.s (.one .ptr)) (fun p => k (.pointer p)) w → Q w) (hk : ∀ bs bn w', (b3 = 0 → bs = 0 ∧ bn = 0) → (b3 ≠ 0 → b3 = sg d → bs = - sg d ∧ bn = 0) → (b3 ≠ 0 → b3 ≠ sg d → bs = 0 ∧ bn = sg d) → TrM w' (nd' (!d) g 0 e3 (nd' d s bs e Y o) (nd' (!d) n bn e2 X o2)) → Fr (fun v => v = s ∨ v = n ∨ v = g) w w' → k (.pointer (some ⟨g, 0, none⟩)) w') :
    (CallT Try.prog 81 [.pointer (some ⟨s, 0, none⟩), .int .i64 (dI d), .int .i64 (sg d)] (.tup []) Q) w := by
  rw [trm_nd', trm_nd', trm_nd', ptr_nd', ptr_nd'] at hM
  obtain ⟨hs, ⟨hn, ⟨hg, hX, hY⟩, ho2⟩, ho⟩ := hM
  simp only [List.nodup_cons, List.mem_cons, List.mem_append, not_or] at hnd
  obtain ⟨⟨d1, d2, ⟨⟨a1, a2⟩, a3⟩, a4⟩, ⟨d3, ⟨⟨b1, b2⟩, b3'⟩, b4⟩, ⟨⟨⟨c1, c2⟩, c3⟩, c4⟩, d6⟩ := hnd
  refine F81_call (F81_spec hs hn hg d1 d2 d3 hb3 fun bs bn w1 k1 k2 k3 s1 n1 g1 f1 => back0 ?_)
  refine hQ w1 (F82_call (F82_spec s1 n1 g1 d1 d2 d3 fun w2 s2 n2 g2 f2 => back_ptr ?_))
  have f02 := f1.trans f2 fun v h => .inl h
  refine hk bs bn w2 k1 k2 k3 ?_ f02
  rw [trm_nd', trm_nd', trm_nd', ptr_nd', ptr_nd']
  refine ⟨g2, ⟨s2, hY.fr f02 fun v hv h => ?_, ho.fr f02 fun v hv h => ?_⟩, n2, hX.fr f02 fun v hv h => ?_, ho2.fr f02 fun v hv h => ?_⟩
  · rcases h with rfl | rfl | rfl
    · exact a2 hv
    · exact b2 hv
    · exact c2 hv
  · rcases h with rfl | rfl | rfl
    · exact a4 hv
    · exact b4 hv
    · exact c4 hv
  · rcases h with rfl | rfl | rfl
    · exact a1 hv
    · exact b1 hv
    · exact c1 hv
  · rcases h with rfl | rfl | rfl
    · exact a3 hv
    · exact b3' hv
    · exact c3 hv
theorem cnt_nd' (d : Bool) (b : Nat) (bal : Int) (e : It2) (c o : Tr) (a : Nat) : (nd' d b bal e c o).bs.count a = (b :: (c.bs ++ o.bs)).count a := (bs_nd' d b bal e c o).count_eq a
theorem RotB.bs {d : Bool} {s : Nat} {e : It2} {o N R : Tr} {v : Bool} (h : RotB d s e o N R v) : R.bs.Perm (s :: (N.bs ++ o.bs)) := by
  refine List.perm_iff_count.2 fun a => ?_
  cases h <;> simp only [cnt_nd', List.count_cons, List.count_append] <;> omega
theorem nodup_of {l m : List Nat} (h : l.Nodup) (hc : ∀ a, m.count a = l.count a) : m.Nodup := (List.perm_iff_count.2 hc).nodup_iff.2 h
/-- insertBalance. -/
theorem F73_spec {k : Value → W} {w : World} {d : Bool} {s : Nat} {x : Int} {e : It2} {N o : Tr} {S : Nat → Prop} (hM : TrM w (nd' d s x e N o)) (hnd : (s :: (N.bs ++ o.bs)).Nodup) (hN : N.AVL) (hh : N.h = o.h + 2) (hb : ∀ b bal e c o', N = nd' d b bal e c o' → bal ≠ 0)
    (hS1 : S s) (hS2 : ∀ b bal e c o', N = nd' d b bal e c o' → S b) (hS3 : ∀ b bal e o' b' bal' e' x y, N = nd' (!d) b bal e (nd' d b' bal' e' x y) o' → bal = - sg d → S b')
    (hk : ∀ R w', RotB d s e o N R true → TrM w' R → (∀ b, R.ptr = some ⟨b, 0, none⟩ → S b) → Fr S w w' → k (.pointer R.ptr) w') : F73 k (some ⟨s, 0, none⟩) (dI d) w := by
  have ph := h_pos o
  rcases nd_cases N d with rfl | ⟨n, nb, e2, c2, o2, rfl⟩
  · simp only [Tr.h] at hh; omega
  have hM' := hM
  rw [trm_nd', trm_nd', ptr_nd'] at hM'
  obtain ⟨hs, ⟨hn, _, _⟩, _⟩ := hM'
  have hbn := hb n nb e2 c2 o2 rfl
  have hA := (avl_nd' ..).1 hN
  have hSn := hS2 n nb e2 c2 o2 rfl
  have pick : F73_J1 k (some ⟨s, 0, none⟩) (dI d) (some ⟨n, 0, none⟩) (sg d) w := by
    unfold F73_J1
    simp only [NN_mk]
    refine load_int hn (ncl_bal ..) ?_
    by_cases hsg : nb = sg d
    · rw [show (nb == sg d) = true by simpa using hsg]
      simp only [BIf_true, NN_mk]
      have hnd2 : (s :: n :: (c2.bs ++ o2.bs ++ o.bs)).Nodup := nodup_of hnd fun a => by simp only [List.count_cons, List.count_append, cnt_nd']; omega
      refine rot_single (k := k) hM hnd2 0 0 (fun w1 h => F80_call ?_) fun w' hR f => ?_
      · unfold F80
        refine back_int ?_
        rw [opp]; exact h
      · have := hk _ w' (.single hsg) hR (fun b hb => by rw [ptr_nd'] at hb; cases hb; exact hSn) (f.mono fun v h => .inl (by rcases h with rfl | rfl; exact hS1; exact hSn))
        rwa [ptr_nd'] at this
    · rw [show (nb == sg d) = false by simpa using hsg]
      simp only [BIf_false]
      rw [wrap_sg64]
      have hnb : nb = - sg d := by rcases sg_cases d with g | g <;> omega
      have hno : nd' d n nb e2 c2 o2 = nd' (!d) n nb e2 o2 c2 := by cases d <;> rfl
      have ho2 : o2.h = c2.h + 1 := by
        have := hA.2.2.1
        rcases sg_cases d with g | g <;> rw [g] at this hnb <;> simp only [Int.one_mul, Int.neg_mul] at this <;> omega
      have pc := h_pos c2
      rcases nd_cases o2 d with rfl | ⟨g, b3, e3, X, Y, rfl⟩
      · simp only [Tr.h] at ho2; omega
      rw [hno] at hM hk hS3
      have hA2 := (avl_nd' ..).1 hA.2.1
      have hSg := hS3 n nb e2 c2 g b3 e3 X Y rfl hnb
      have hnd2 : (s :: n :: g :: (X.bs ++ Y.bs ++ c2.bs ++ o.bs)).Nodup := nodup_of hnd fun a => by simp only [List.count_cons, List.count_append, cnt_nd']; omega
      refine rot_double (k := k) hM hnd2 hA2.2.2.2 (fun w1 h => F80_call ?_) fun bs bn w' k1 k2 k3 hR f => ?_
      · unfold F80
        refine back_int ?_
        rw [opp]; exact h
      · have := hk _ w' (.double hnb k1 k2 k3) hR (fun b hb => by rw [ptr_nd'] at hb; cases hb; exact hSg) (f.mono fun v h => .inl (by rcases h with rfl | rfl | rfl; exact hS1; exact hSn; exact hSg))
        rwa [ptr_nd'] at this
  unfold F73
  simp only [NN_mk, adr]
  refine ⟨dI_ok d, load_ptr hs (ncl_c ..) ?_⟩
  cases d
  · exact pick
  · exact pick
end Go.Proofs.Ytokejbejoegnnaa.E
