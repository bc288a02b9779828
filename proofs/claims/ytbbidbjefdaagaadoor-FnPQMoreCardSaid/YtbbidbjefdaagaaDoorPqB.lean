/-
  FnPQMore, walked.
-/
import Derived.Test.YtbbidbjefdaagaaDoorPqA
namespace Go.Proofs.YtbbidbjefdaagaaDoor.E
open Go Go.Sort
set_option linter.unusedSimpArgs false
set_option linter.unusedVariables false
set_option maxRecDepth 100000
set_option maxHeartbeats 4000000

section
variable {k : Value → W} {n : Nat} {X : It2} {ip : Option Addr} {ic : Nat} {T : List It2} {base : Nat} {Wn : List Int}
theorem J4_spec {w : World} {wp op tp cp : Option Addr} {wc oc tc cc : Nat} {esC : List Ent} (hC : Cx w n X ip ic T) (hW : Own w 3 wp Wn.length wc (ints Wn)) (hO : Own w 3 op Wn.length oc (ints Wn)) (hT : Own w 3 tp Wn.length tc (ints Wn)) (hWl : Wn.length ≤ 100)
    (hcs : OwnN w 40 3 cp esC.length cc (sflat esC)) (hok : ∀ u, Edges u ip T → EOk u esC) (hcl : esC.length ≤ 40) (hcp : ∀ b, bl cp b → base ≤ b) (hbw : base ≤ w.heap.size)
    (hR : ∀ fs, Puts fs [X] 1 → Fine true ((esC ++ fs ++ [tk 1000]).map Ent.st) ∧ ∀ os C, Run true ((esC ++ fs ++ [tk 1000]).map Ent.st) os C → os.flatten.map key = Wn)
    (hk : ∀ w', Fr (fun b => base ≤ b) w w' → k (.bool true) w') : F3_J4 k ⟨n, 0, none⟩ true wp Wn.length wc op Wn.length oc true tp Wn.length tc true cp esC.length cc w := by
  unfold F3_J4
  refine load_int (i := 0) hC.hx rfl ?_
  show LoadT (.int .i64) ⟨n, 1, none⟩ _ w
  refine load_int (i := 1) hC.hx rfl ?_
  refine sX' hC fun q w1 hq b1 C1 f1 => ?_
  refine sOne C1 b1 fun fs p2 c2 w2 P2 k2 o2 hp2 C2 b2 f2 => ?_
  have f02 := f1.trans f2 fun _ h => h.elim
  have hfl := P2.2.2
  simp only [List.length_singleton] at hfl
  refine sApp (hcs.fr f02 fun _ _ h => h) o2 (puts_pos P2 (by simp)) (by omega) fun p3 c3 w3 o3 hp3 f3 kp3 => ?_
  have C3 := C2.keep kp3
  have b3 := kp3 28 q _ (by decide) b2
  obtain ⟨hF, hRun⟩ := hR fs P2
  refine sTake (N := 1000) o3 (EOk.append (hok w3 C3.hE) (k2 w3 b3)) (by simp only [List.length_append]; have := puts_pos P2 (by simp); omega) (by simp only [List.length_append]; omega) fun p4 c4 w4 S4 hp4 f4 => ?_
  refine F12_call (F12_spec S4 (by simp only [List.length_append, List.length_singleton]; omega) hF fun os C p5 l5 c5 w5 hRR o5 hp5 f5 => back_sb ?_)
  rw [hRun os C hRR] at o5
  have hl5 : l5 = Wn.length := by have := o5.1; rw [ints_length] at this; exact this.symm
  subst hl5
  simp only [BIf_true]
  have f35 := f4.trans f5 fun _ h => h.elim
  have kp : Keep w w5 := ((Keep.of f02).trans kp3).trans (Keep.of f35)
  have W5 := hW.keep (by decide) kp
  have O5 := hO.keep (by decide) kp
  have T5 := hT.keep (by decide) kp
  refine F13_call (F13_spec O5.ints W5.ints rfl rfl (by omega) fun w6 f6 => back_bool ?_)
  rw [decide_eq_true rfl]
  simp only [BIf_true]
  refine F13_call (F13_spec (T5.ints.fr0 f6) (W5.ints.fr0 f6) rfl rfl (by omega) fun w7 f7 => back_bool ?_)
  rw [decide_eq_true rfl]
  simp only [BIf_true]
  have f67 := f6.trans f7 fun _ h => h.elim
  refine F13_call (F13_spec (o5.ints.fr0 f67) (W5.ints.fr0 f67) rfl rfl (by omega) fun w8 f8 => back_bool ?_)
  rw [decide_eq_true rfl]
  refine hk w8 ?_
  exact ((((f02.mono (S' := fun b => base ≤ b) fun _ h => h.elim).trans f3 fun b hb => .inl (hcp b hb)).trans f35 fun _ h => h.elim).trans f67 fun _ h => h.elim).trans f8 fun _ h => h.elim
theorem J3_spec {w : World} {wp op tp : Option Addr} {wc oc tc m : Nat} {x : Int} {xs : List Int} (hC : Cx w n X ip ic T) (hW : Own w 3 wp Wn.length wc (ints Wn)) (hO : Own w 3 op Wn.length oc (ints Wn)) (hT : Own w 3 tp Wn.length tc (ints Wn)) (hWl : Wn.length ≤ 100)
    (hWn : Wn = srt (T.map key ++ [X.1])) (hm : m ≤ T.length) (hle : ∀ i v, i < m → (srt (T.map key))[i]? = some v → v ≤ X.1) (hbw : base ≤ w.heap.size)
    (hk : ∀ w', Fr (fun b => base ≤ b) w w' → k (.bool true) w') : F3_J3 k ip T.length ic ⟨n, 0, none⟩ true wp Wn.length wc op Wn.length oc true tp Wn.length tc true (m : Nat) w := by
  have hTb := hC.hb
  have hT0 := hC.h0
  unfold F3_J3
  refine sAll hC fun es p1 c1 w1 P1 k1 o1 hp1 C1 f1 => ?_
  have e1 := puts_pos P1 hT0
  have e2 := P1.2.2
  have z1 := f1.size
  have W1 := hW.fr f1 fun _ _ h => h
  have O1 := hO.fr f1 fun _ _ h => h
  have T1 := hT.fr f1 fun _ _ h => h
  by_cases hm0 : 0 < m
  · rw [decide_eq_true (by omega)]
    simp only [BIf_true]
    refine sTake (N := m) o1 (k1 w1 C1.hE) e1 (by omega) fun p2 c2 w2 S2 hp2 f2 => ?_
    have f02 := f1.trans f2 fun _ h => h.elim
    have z2 := f02.size
    have e3 : es.length + 1 = (es ++ [tk m]).length := by simp
    have o2 := S2.own
    rw [e3] at o2 ⊢
    refine J4_spec (base := base) (C1.fr0 f2) (W1.fr f2 fun _ _ h => h) (O1.fr f2 fun _ _ h => h) (T1.fr f2 fun _ _ h => h) hWl o2 (fun u hu => (k1 u hu).append EOk.take) (by simp; omega) (fun b hb => by have := hp2 b hb; omega) (by omega) (fun fs hfs => ⟨Fine.twice P1 hfs (by decide) (by decide) hm0 (by omega) hT0, fun os C hR => ?_⟩) fun w' f' => hk w' ((f02.mono (S' := fun b => base ≤ b) fun _ h => h.elim).trans f' fun b hb => .inl hb)
    rw [hWn]
    exact Run.twice P1 hfs hm (by omega) hle hR
  · rw [decide_eq_false (by omega)]
    simp only [BIf_false]
    refine J4_spec (base := base) C1 W1 O1 T1 hWl o1 k1 (by omega) (fun b hb => by have := hp1 b hb; omega) (by omega) (fun fs hfs => ?_) fun w' f' => hk w' ((f1.mono (S' := fun b => base ≤ b) fun _ h => h.elim).trans f' fun b hb => .inl hb)
    have PP := P1.append hfs
    refine ⟨Fine.once PP (by decide) (by simp) (by decide) (by decide), fun os C hR => ?_⟩
    rw [Run.once PP (by simp only [List.length_append, List.length_singleton]; omega) hR, addAll_true, List.nil_append, List.map_append, hWn]
    rfl
theorem L1_spec {w : World} {wp op tp sp : Option Addr} {wc oc tc sc : Nat} {first : Int} (hf : 0 ≤ first ∧ first < 256) (hC : Cx w n X ip ic T) (hS : Own w 3 sp T.length sc (ints (srt (T.map key)))) (hW : Own w 3 wp Wn.length wc (ints Wn)) (hO : Own w 3 op Wn.length oc (ints Wn)) (hT : Own w 3 tp Wn.length tc (ints Wn)) (hWl : Wn.length ≤ 100)
    (hWn : Wn = srt (T.map key ++ [X.1])) (hbw : base ≤ w.heap.size)
    (hk : ∀ w', Fr (fun b => base ≤ b) w w' → k (.bool true) w') :
    Loop [(.int .u8), .slice, .addr, .slice, .bool, .slice, .slice, .bool, .slice, .bool, (.int .i64)] (F3_L1 k) first ip T.length ic ⟨n, 0, none⟩ sp T.length sc true wp Wn.length wc op Wn.length oc true tp Wn.length tc true 0 w := by
  have hTb := hC.hb
  refine F3_L1_rule (fun fi a1 a2 a3 a4 b1 b2 b3 is d1 d2 d3 e1 e2 e3 ri g1 g2 g3 fn m w' => fi = first ∧ a1 = ip ∧ a2 = T.length ∧ a3 = ic ∧ a4 = ⟨n, 0, none⟩ ∧ b1 = sp ∧ b2 = T.length ∧ b3 = sc ∧ is = true ∧ d1 = wp ∧ d2 = Wn.length ∧ d3 = wc ∧ e1 = op ∧ e2 = Wn.length ∧ e3 = oc ∧ ri = true ∧ g1 = tp ∧ g2 = Wn.length ∧ g3 = tc ∧ fn = true ∧ ∃ j : Nat, m = j ∧ j ≤ T.length ∧ (∀ i v, i < j → (srt (T.map key))[i]? = some v → v ≤ X.1) ∧ Fr (fun _ => False) w w')
    (fun _ _ _ _ _ _ _ _ _ _ _ _ _ _ _ _ _ _ _ _ m _ => (T.length - m).toNat) ?_ ⟨rfl, rfl, rfl, rfl, rfl, rfl, rfl, rfl, rfl, rfl, rfl, rfl, rfl, rfl, rfl, rfl, rfl, rfl, rfl, rfl, 0, rfl, Nat.zero_le _, fun i v h => absurd h (Nat.not_lt_zero i), Fr.refl _ _⟩
  rintro fi a1 a2 a3 a4 b1 b2 b3 is d1 d2 d3 e1 e2 e3 ri g1 g2 g3 fn m w1 ⟨rfl, rfl, rfl, rfl, rfl, rfl, rfl, rfl, rfl, rfl, rfl, rfl, rfl, rfl, rfl, rfl, rfl, rfl, rfl, rfl, j, rfl, hj, hle, f1⟩
  unfold F3_L1
  refine drw_intro fun w2 f2 z2 => ?_
  have f02 := f1.trans f2 fun _ h => h.elim
  have C2 := hC.fr0 f02
  have z := f02.size
  have fin : ∀ w3, Fr (fun _ => False) w w3 → F3_J3 k a1 T.length a3 ⟨n, 0, none⟩ true d1 Wn.length d3 e1 Wn.length e3 true g1 Wn.length g3 true (j : Nat) w3 := fun w3 f3 => J3_spec (x := 0) (xs := []) (hC.fr0 f3) (hW.fr f3 fun _ _ h => h) (hO.fr f3 fun _ _ h => h) (hT.fr f3 fun _ _ h => h) hWl hWn hj hle (by have := f3.size; omega) fun w' f' => hk w' ((f3.mono (S' := fun b => base ≤ b) fun _ h => h.elim).trans f' fun b hb => .inl hb)
  refine BIf_intro (fun h1 => ?_) fun _ => fin w2 f02
  have h1 := of_decide_eq_true h1
  refine ⟨by decide, ?_⟩
  refine BIf_intro (fun h2 => ?_) fun _ => fin w2 f02
  have hjl : j < T.length := by omega
  have hsl : (srt (T.map key)).length = T.length := by rw [srt_len, List.length_map]
  have hget : (srt (T.map key))[j]? = some ((srt (T.map key))[j]'(by omega)) := List.getElem?_eq_getElem _
  generalize (srt (T.map key))[j]'(by omega) = v at hget
  obtain ⟨a, rfl, hc⟩ := (hS.ints.fr0 f02) j v hget
  simp only [NN_mk, Int.toNat_natCast]
  refine ⟨by omega, LoadT_int.2 ⟨_, hc, ?_⟩⟩
  refine load_int (i := 0) C2.hx rfl ?_
  refine BIf_intro (fun h3 => ?_) fun _ => fin w2 f02
  have h3 := of_decide_eq_true h3
  rw [add_one (by omega)]
  refine ⟨⟨(by trivial), (by trivial), (by trivial), (by trivial), (by trivial), (by trivial), (by trivial), (by trivial), (by trivial), (by trivial), (by trivial), (by trivial), (by trivial), (by trivial), (by trivial), (by trivial), (by trivial), (by trivial), (by trivial), (by trivial), j + 1, rfl, by omega, fun i u hi hu => ?_, f02⟩, by omega⟩
  by_cases hij : i = j
  · subst hij
    rw [hget] at hu
    cases hu; exact h3
  · exact hle i u (by omega) hu
end
end Go.Proofs.YtbbidbjefdaagaaDoor.E
