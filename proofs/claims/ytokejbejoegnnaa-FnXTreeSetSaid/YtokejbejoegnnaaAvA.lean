/-
  All trees asked; two trees that are made of one.
-/
import Derived.Test.YtokejbejoegnnaaAvQ
namespace Go.Proofs.Ytokejbejoegnnaa.E
open Go Tr
set_option linter.unusedSimpArgs false
set_option linter.unusedVariables false
set_option maxRecDepth 100000
set_option maxHeartbeats 4000000

/-! ## What insertions leave -/
theorem InsAll.look {L es L' : List It2} {vs : List (Option It2)} (h : InsAll L es L' vs) : ∀ {M M' : List It2} {us : List (Option It2)}, InsAll M es M' us → Srt L → Srt M → (∀ k, E.look L k = E.look M k) → L.length = M.length → (∀ k, E.look L' k = E.look M' k) ∧ L'.length = M'.length := by
  induction h with
  | nil =>
    intro M M' us h2 _ _ he hl
    generalize hes : ([] : List It2) = es at h2
    cases h2 with
    | nil => exact ⟨he, hl⟩
    | snoc _ _ => simp at hes
  | @snoc es L1 L2 vs e v h1 h2 ih =>
    intro M M' us g hL hM he hl
    generalize hes : es ++ [e] = es' at g
    cases g with
    | nil => simp at hes
    | @snoc es0 M1 M2 us e0 u g1 g2 =>
      have hes := List.append_inj' hes rfl
      obtain ⟨rfl, h3⟩ := hes
      have h3 : e = e0 := by simpa using h3
      subst h3
      obtain ⟨a1, a2⟩ := ih g1 hL hM he hl
      obtain ⟨b1, b2, b3⟩ := h2.look (h1.len hL).1
      obtain ⟨c1, c2, c3⟩ := g2.look (g1.len hM).1
      refine ⟨fun k => by rw [b2, c2, a1], ?_⟩
      rw [b3, c3, b1, c1, a1, a2]
theorem InsAll.keys {L es L' : List It2} {vs : List (Option It2)} (h : InsAll L es L' vs) (hL : Srt L) : (es.map kx).Nodup → (∀ e ∈ es, E.look L' (kx e) = some e) ∧ (∀ k, k ∉ es.map kx → E.look L' k = E.look L k) ∧ ((∀ e ∈ es, E.look L (kx e) = none) → L'.length = L.length + es.length ∧ ∀ v ∈ vs, v = none) := by
  induction h with
  | nil => exact fun _ => ⟨fun e h => (by cases h), fun _ _ => rfl, fun _ => ⟨rfl, fun v h => by cases h⟩⟩
  | @snoc es L1 L2 vs e v h1 h2 ih =>
    intro hn
    rw [List.map_append, List.nodup_append] at hn
    obtain ⟨n1, _, n3⟩ := hn
    obtain ⟨i1, i2, i3⟩ := ih n1
    obtain ⟨b1, b2, b3⟩ := h2.look (h1.len hL).1
    have hne : ∀ x ∈ es, kx x ≠ kx e := fun x hx => n3 (kx x) (List.mem_map_of_mem hx) (kx e) (by simp)
    refine ⟨fun x hx => ?_, fun k hk => ?_, fun h0 => ?_⟩
    · rw [b2]
      rcases List.mem_append.1 hx with hx | hx
      · rw [if_neg (hne x hx)]; exact i1 x hx
      · simp only [List.mem_singleton] at hx; subst hx; rw [if_pos rfl]
    · rw [List.map_append, List.mem_append, not_or] at hk
      rw [b2, if_neg (fun h => hk.2 (by simp [h])), i2 k hk.1]
    · obtain ⟨a1, a2⟩ := i3 fun x hx => h0 x (List.mem_append_left _ hx)
      have hv : v = none := by
        rw [b1, i2 (kx e) fun hm => by
          obtain ⟨x, hx, hxe⟩ := List.mem_map.1 hm
          exact hne x hx hxe]
        exact h0 e (by simp)
      refine ⟨by rw [b3, if_pos hv, a1]; simp; omega, fun u hu => ?_⟩
      rcases List.mem_append.1 hu with hu | hu
      · exact a2 u hu
      · simp only [List.mem_singleton] at hu; rw [hu, hv]
theorem Step.inv1 {s : Stp} {Ls Ls' : List (Option (List It2))} {sd : Sd} {L : List It2} (h : Step s Ls Ls' sd) (ho : s.op = 1) (hL : Ls[s.fm % Ls.length]? = some (some L)) : ∃ L' vs, Ls' = Ls ++ [some L'] ∧ sd = (L'.length, vs) ∧ InsAll L s.es L' vs ∧ Srt L := by
  cases h with
  | ins _ a b c => rw [hL] at b; cases b; exact ⟨_, _, rfl, rfl, c, a⟩
  | del h' => omega
  | get h' => omega
theorem Step.inv2 {s : Stp} {Ls Ls' : List (Option (List It2))} {sd : Sd} {L : List It2} (h : Step s Ls Ls' sd) (ho : s.op = 2) (hL : Ls[s.fm % Ls.length]? = some (some L)) : ∃ L' vs, Ls' = Ls.map (fun _ => none) ++ [some L'] ∧ sd = (L'.length, vs) ∧ DelAll L s.es L' vs ∧ Srt L := by
  cases h with
  | ins h' => omega
  | del _ a b c => rw [hL] at b; cases b; exact ⟨_, _, rfl, rfl, c, a⟩
  | get h' => omega
theorem Step.inv3 {s : Stp} {Ls Ls' : List (Option (List It2))} {sd : Sd} {L : List It2} (h : Step s Ls Ls' sd) (ho : s.op = 3) (hL : Ls[s.fm % Ls.length]? = some (some L)) : Ls' = Ls ∧ sd = (L.length, s.es.map fun e => look L (kx e)) ∧ Srt L := by
  cases h with
  | ins h' => omega
  | del h' => omega
  | get _ a b => rw [hL] at b; cases b; exact ⟨rfl, rfl, a⟩
theorem srt_nil : Srt [] := List.Pairwise.nil
theorem look_nil (k : Int) : look [] k = none := rfl

theorem outs_snoc' {K : Option Addr → Nat → Nat → W} {w : World} {base on : Nat} {p : Option Addr} {c : Nat} {out : List Sd} {r : SdR} {s : Sd} (hon : on = out.length) (h : Outs w base p c out) (hr : SOk w base r s) (hb : out.length < 100000) (hbase : base ≤ w.heap.size)
    (hk : ∀ p' c' w', Outs w' base p' c' (out ++ [s]) → Fr (fun b => bl p b) w w' → K p' (on + 1) c' w') :
    RawT Try.prog (Instr.buildSlice 51 1 [(0, .agg #[.int .i64 r.n, .slice r.sp r.sl r.sc, .slice r.hp r.hl r.hc])].toArray) (.s (.one .slice)) (fun a m d => NextT Try.prog (builtin .append #[51, 51] 51 [false, false].toArray [.slice p on c, .slice a m d].toArray) (.s (.one .slice)) K) w := by
  subst hon; exact outs_snoc h hr hb hbase hk
/-- AVKeep. -/
theorem F16_spec {k : Value → W} {w : World} {p q : Option Addr} {c d m : Nat} {ss : List Stp} {ks : List Int} {Q : List (Option (List It2)) → List Sd → Prop} (hS : StM w p ss) (hl : ss.length ≤ 10) (hX : Ints w q ks) (hm : m = ks.length) (hb : ks.length ≤ 1000) (hA : After Q ss [some []] [])
    (hQ : ∀ Ls out, Q Ls out → ∃ LL : List (List It2), Ls = LL.map some ∧ ∀ L ∈ LL, L.length ≤ 1000)
    (hk : ∀ op oc w' (LL : List (List It2)) out, Q (LL.map some) out → Outs w' w.heap.size op oc (LL.map fun L => (L.length, ks.map fun x => look L x)) → Fr (fun _ => False) w w' → k (.slice op LL.length oc) w') : F16 k p ss.length c q m d w := by
  subst hm
  unfold F16
  refine F26_call (F26_spec hS hl hA fun lp ln lc op on oc w1 Ls out hQQ e1 hLn e2 T1 O1 f1 => back_pair ?_)
  subst e1; subst e2
  obtain ⟨LL, rfl, hLL⟩ := hQ Ls out hQQ
  have hln : (LL.map (some : List It2 → Option (List It2))).length = LL.length := List.length_map ..
  have hw1 := f1.size
  refine F16_L1_rule (fun lp' ln' lc' ap al ac kp kl kc x8 x9 w' => lp' = lp ∧ ln' = LL.length ∧ kp = q ∧ kl = ks.length ∧ x8 = (ks.length : Nat) ∧ ∃ i : Nat, x9 = i ∧ i ≤ ks.length ∧ al = i ∧ OwnN w' 40 2 ap i ac (flat ((ks.take i).map fun x => (x, 0))) ∧ (∀ b, bl ap b → w.heap.size ≤ b) ∧ Trs w' w.heap.size lp lc' (LL.map some) ∧ Fr (fun _ => False) w w')
    (fun _ _ _ _ _ _ _ _ _ x8 x9 _ => (x8 - x9).toNat) ?_ ⟨rfl, hln, rfl, rfl, rfl, 0, rfl, Nat.zero_le _, rfl, OwnN.nil _ _ _, fun b hb => (by obtain ⟨a, h, _⟩ := hb; cases h), T1, f1⟩
  rintro lp' ln' lc' ap al ac kp kl kc x8 x9 w2 ⟨e1, e2, e3, e4, rfl, i, rfl, hi, e5, o2, hb2, T2, f2⟩
  obtain rfl := e1.symm; obtain rfl := e2.symm; obtain rfl := e3.symm; obtain rfl := e4.symm; obtain rfl := e5.symm
  unfold F16_L1
  by_cases hil : i < ks.length
  · rw [decide_eq_true (by omega)]
    have hget : ks[i]? = some (ks[i]'(by omega)) := List.getElem?_eq_getElem _
    generalize ks[i]'(by omega) = x at hget
    obtain ⟨a, rfl, c1⟩ := hX.fr0 f2 i x hget
    simp only [BIf_true, NN_mk, Int.toNat_natCast]
    refine ⟨by omega, LoadT_int.2 ⟨_, c1, ?_⟩⟩
    refine qS (x := (x, 0)) fun n w3 b3 f3 => ?_
    refine qSa (o2.fr f3 fun _ _ h => h) b3 (by omega) fun p4 c4 w4 o4 hp4 k4 f4 => ?_
    rw [add_one (by omega)]
    have f03 := f2.trans f3 fun _ h => h.elim
    refine ⟨⟨(by trivial), (by trivial), (by trivial), (by trivial), (by trivial), i + 1, rfl, by omega, (by trivial), by rw [take_snoc hget, List.map_append]; exact o4, fun b hb => (hp4 b hb).elim (hb2 b) fun h => by have := f03.size; omega, (T2.fr0 f3).fr f4 fun b hb => ?_, f03.trans f4 fun b hb => .inr (hb2 b hb)⟩, by omega⟩
    obtain ⟨us, hu⟩ := (o2.fr f3 fun _ _ h => h).blk hb
    exact ⟨40, us, hu, by decide, by decide, by decide⟩
  have : i = ks.length := by omega
  subst this
  rw [decide_eq_false (by omega)]
  simp only [BIf_false]
  rw [List.take_length] at o2
  have hw2 := f2.size
  have heq : (ks.map fun x => ((x, 0) : It2)).length = ks.length := List.length_map ..
  refine F16_L2_rule (fun ap' al' ac' op on oc sp sl sc x18 x19 w' => ap' = ap ∧ al' = ks.length ∧ sp = lp ∧ sl = LL.length ∧ x18 = (LL.length : Nat) ∧ ∃ i : Nat, x19 = i ∧ i ≤ LL.length ∧ on = i ∧ Trs w' w.heap.size lp lc' (LL.map some) ∧ Outs w' w.heap.size op oc ((LL.take i).map fun L => (L.length, ks.map fun x => look L x)) ∧ OwnN w' 40 2 ap ks.length ac (flat (ks.map fun x => (x, 0))) ∧ Fr (fun _ => False) w w')
    (fun _ _ _ _ _ _ _ _ _ x18 x19 _ => (x18 - x19).toNat) ?_ ⟨rfl, rfl, rfl, rfl, rfl, 0, rfl, Nat.zero_le _, rfl, T2, ⟨[], OwnN.nil _ _ _, fun b ⟨a, h, e⟩ => (by cases h), rfl, fun i r s h => by cases h⟩, o2, f2⟩
  rintro ap' al' ac' op on oc sp sl sc x18 x19 w3 ⟨e1, e2, e3, e4, rfl, i, rfl, hi, e5, T3, O3, E3, f3⟩
  obtain rfl := e1.symm; obtain rfl := e2.symm; obtain rfl := e3.symm; obtain rfl := e4.symm; obtain rfl := e5.symm
  unfold F16_L2
  by_cases hil : i < LL.length
  rotate_left
  · have : i = LL.length := by omega
    subst this
    rw [decide_eq_false (by omega)]
    simp only [BIf_false]
    rw [List.take_length] at O3
    exact hk _ _ w3 LL out hQQ O3 f3
  rw [decide_eq_true (by omega)]
  have hget : LL[i]? = some (LL[i]'(by omega)) := List.getElem?_eq_getElem _
  generalize LL[i]'(by omega) = L at hget
  have hLb := hLL L (List.mem_of_getElem? hget)
  obtain ⟨ps, hps, hpb, hpt⟩ := id T3
  obtain ⟨ib, t, num, a1, a2, a3, a4⟩ := hpt i L (by rw [List.getElem?_map, hget]; rfl)
  rw [hln] at hps
  obtain ⟨lq, lrest, rfl, hlq, _, _⟩ := hps.get (by omega)
  simp only [BIf_true, NN_mk, Int.toNat_natCast]
  refine ⟨by omega, LoadT_ptr.2 ⟨_, by rw [add_mk, Nat.zero_add, hps.cell (by omega), List.getElem?_map, a1]; rfl, ?_⟩⟩
  have hnum := a2.num
  rw [a3] at hnum
  rw [← heq]
  refine F29_call (F29_spec E3.pairs (by rw [heq]; omega) fun qe ce w4 oe hqe f4 => back_slice ?_)
  refine F28_call (F28_spec (a2.fr0 f4) (Own.eits oe) (by rw [heq]; omega) fun qg cg w5 og hqg f5 => back_slice ?_)
  have hvv : ((ks.map fun x => ((x, 0) : It2)).map fun e => look t.list (kx e)) = ks.map fun x => look L x := by
    rw [List.map_map, a3]; rfl
  rw [hvv] at og
  rw [heq] at og ⊢
  have f35 := f4.trans f5 fun _ h => h.elim
  have f05 := f3.trans f35 fun _ h => h.elim
  have hV := Own.vits og
  have hvl : (ks.map fun x => look L x).length = ks.length := List.length_map ..
  refine F27_call ?_
  rw [← hvl]
  refine F27_spec ((a2.fr0 f4).fr0 f5) hV (by rw [hvl]; omega) (by omega) fun sp2 sc2 hp2 hc2 w6 oS oH hnew f6 => ?_
  refine ⟨(((num : Nat) : Int), (sp2, _, sc2), (hp2, _, hc2), ()), rfl, ?_⟩
  have f06 := f05.trans f6 fun _ h => h.elim
  have ho : ((LL.take i).map fun L => ((L.length, ks.map fun x => look L x) : Sd)).length = i := by simp; omega
  have O6 := (O3.fr0 f35).fr0 f6
  refine outs_snoc' ho.symm (r := ⟨(num : Nat), sp2, (ks.map fun x => look L x).length, sc2, hp2, (ks.map fun x => look L x).length, hc2⟩) (s := (L.length, ks.map fun x => look L x)) O6 ⟨by rw [hnum], rfl, rfl, oS, oH, fun b hb => Nat.le_trans f05.size (hnew b hb)⟩ (by rw [ho]; omega) f06.size fun p' c' wa Oa fa => ?_
  · rw [add_one (by omega)]
    have hob : ∀ b, bl op b → w.heap.size ≤ b ∧ ∃ us, Blk w6 b 42 us := fun b hb => by
      obtain ⟨rs, h1, h2, _⟩ := O6
      exact ⟨h2 b hb, h1.blk hb⟩
    have hEb : OwnN wa 40 2 ap ks.length ac (flat (ks.map fun x => (x, 0))) := ((E3.fr f35 fun _ _ h => h).fr f6 fun _ _ h => h).fr fa fun b hb hb' => by
      obtain ⟨us, hu⟩ := ((E3.fr f35 fun _ _ h => h).fr f6 fun _ _ h => h).blk hb
      obtain ⟨_, us', hu'⟩ := hob b hb'
      exact absurd (hu.unique hu').1 (by decide)
    refine ⟨⟨(by trivial), (by trivial), (by trivial), (by trivial), (by trivial), i + 1, rfl, by omega, (by trivial), ((T3.fr0 f35).fr0 f6).fr fa fun b hb => ?_, by rw [take_snoc hget, List.map_append]; exact Oa, by rw [hvl]; exact hEb, f06.trans fa fun b hb => .inr (hob b hb).1⟩, by omega⟩
    obtain ⟨_, us, hu⟩ := hob b hb
    exact ⟨42, us, hu, by decide, by decide, by decide⟩
theorem F16_spec' {k : Value → W} {w : World} {p q : Option Addr} {c d m n : Nat} (ss : List Stp) (hn : n = ss.length) (ks : List Int) (Q : List (Option (List It2)) → List Sd → Prop) (hS : StM w p ss) (hl : ss.length ≤ 10) (hX : Ints w q ks) (hm : m = ks.length) (hb : ks.length ≤ 1000) (hA : After Q ss [some []] [])
    (hQ : ∀ Ls out, Q Ls out → ∃ LL : List (List It2), Ls = LL.map some ∧ ∀ L ∈ LL, L.length ≤ 1000)
    (hk : ∀ op oc w' (LL : List (List It2)) out, Q (LL.map some) out → Outs w' w.heap.size op oc (LL.map fun L => (L.length, ks.map fun x => look L x)) → Fr (fun _ => False) w w' → k (.slice op LL.length oc) w') : F16 k p n c q m d w := by
  subst hn; exact F16_spec hS hl hX hm hb hA hQ hk
end Go.Proofs.Ytokejbejoegnnaa.E
