/-
  The law of the mirror, walked.
-/
import Derived.Test.YtokejbejoegnnaaAvD
namespace Go.Proofs.Ytokejbejoegnnaa.E
open Go Tr
set_option linter.unusedSimpArgs false
set_option linter.unusedVariables false
set_option maxRecDepth 100000
set_option maxHeartbeats 4000000

theorem DelAll.keys {L es L' : List It2} {vs : List (Option It2)} (h : DelAll L es L' vs) (hL : Srt L) : (∀ k, E.look L' k = if k ∈ es.map kx then none else E.look L k) ∧ ((es.map kx).Nodup → (∀ e ∈ es, E.look L (kx e) ≠ none) → L'.length + es.length = L.length) := by
  induction h with
  | nil => exact ⟨fun k => by simp, fun _ _ => rfl⟩
  | @snoc es L1 L2 vs e v h1 h2 ih =>
    obtain ⟨i1, i2⟩ := ih
    obtain ⟨b1, b2, b3, b4⟩ := h2.look (h1.len hL).1
    refine ⟨fun k => ?_, fun hn h0 => ?_⟩
    · rw [b2, i1]
      simp only [List.map_append, List.map_cons, List.map_nil, List.mem_append, List.mem_singleton]
      by_cases hk : k = kx e
      · rw [if_pos hk, if_pos (.inr hk)]
      · rw [if_neg hk]
        by_cases hm : k ∈ es.map kx
        · rw [if_pos hm, if_pos (.inl hm)]
        · rw [if_neg hm, if_neg (fun h => h.elim hm hk)]
    · rw [List.map_append, List.nodup_append] at hn
      obtain ⟨n1, _, n3⟩ := hn
      have hi := i2 n1 fun x hx => h0 x (List.mem_append_left _ hx)
      have hne : kx e ∉ es.map kx := fun hm => n3 _ hm (kx e) (by simp) rfl
      have hv : v ≠ none := by
        rw [b1, i1, if_neg hne]; exact h0 e (by simp)
      rw [if_neg hv] at b3
      simp only [List.length_append, List.length_singleton]; omega
def Mir (own : List It2) (n : Nat) (L : List It2) : Prop := L.length + n = own.length ∧ ∀ k, (look L k).isSome = decide (k ∈ own.map kx ∧ k ∉ (own.take n).map kx)
theorem mir {own : List It2} {n : Nat} {p q : Option Addr} {c d : Nat} (hn : (own.map kx).Nodup) (h0 : 0 < n) (h1 : n ≤ own.length) (h2 : own.length ≤ 60) :
    After (fun Ls out => out.length = 2 ∧ ∃ L, Ls[2 % Ls.length]? = some (some L) ∧ L.length ≤ 60 ∧ Mir own n L) [⟨1, 0, p, c, own⟩, ⟨2, 1, q, d, own.take n⟩] [some []] [] := by
  have htk : (own.take n).length = n := by simp; omega
  refine ⟨⟨by simp only; omega, by simp only; omega, by simp, .inl rfl, [], rfl, by simp⟩, fun Ls1 sd1 s1 => ?_⟩
  obtain ⟨L1, v1, rfl, rfl, i1, _⟩ := s1.inv1 rfl rfl
  obtain ⟨a1, a2, a3⟩ := i1.keys srt_nil hn
  have hl1 := (a3 fun e _ => rfl).1
  simp only [List.length_nil, Nat.zero_add] at hl1
  have sL1 := (i1.len srt_nil).1
  refine ⟨⟨by simp only; omega, by simp only; omega, by simp, .inr (.inl rfl), L1, rfl, by omega⟩, fun Ls2 sd2 s2 => ?_⟩
  obtain ⟨L2, v2, rfl, rfl, i2, _⟩ := s2.inv2 rfl (L := L1) rfl
  obtain ⟨d1, d2⟩ := i2.keys sL1
  have hnt : ((own.take n).map kx).Nodup := by
    rw [List.map_take]; exact hn.sublist (List.take_sublist ..)
  have hl2 := d2 hnt fun e he => by rw [a1 e (List.mem_of_mem_take he)]; simp
  simp only [htk] at hl2
  refine ⟨rfl, L2, rfl, by omega, by omega, fun k => ?_⟩
  rw [d1]
  by_cases hk : k ∈ (own.take n).map kx
  · rw [if_pos hk, decide_eq_false fun h => h.2 hk]; rfl
  · rw [if_neg hk]
    by_cases hk2 : k ∈ own.map kx
    · obtain ⟨e, he, rfl⟩ := List.mem_map.1 hk2
      rw [a1 e he, decide_eq_true ⟨hk2, hk⟩]; rfl
    · rw [a2 k hk2, decide_eq_false fun h => hk2 h.1]; rfl
def mirE (e : It2) : It2 := (-1 - e.1, e.2)
theorem mirE_keys (l : List It2) (k : Int) : (-1 - k ∈ (l.map mirE).map kx) ↔ k ∈ l.map kx := by
  simp only [List.map_map, List.mem_map, Function.comp_apply, mirE, kx]
  constructor
  · rintro ⟨e, he, h⟩; exact ⟨e, he, by omega⟩
  · rintro ⟨e, he, h⟩; exact ⟨e, he, by omega⟩
theorem mirE_nodup {l : List It2} (h : (l.map kx).Nodup) : ((l.map mirE).map kx).Nodup := by
  have : (l.map mirE).map kx = (l.map kx).map fun k => -1 - k := by simp only [List.map_map]; rfl
  rw [this]
  refine List.Pairwise.map _ (fun a b hab => ?_) h
  omega
theorem mir_same {own : List It2} {n : Nat} {L M : List It2} (h : Mir own n L) (g : Mir (own.map mirE) n M) : L.length = M.length ∧ hass (own.map fun e => look L (kx e)) = hass ((own.map mirE).map fun e => look M (kx e)) := by
  refine ⟨by have := h.1; have := g.1; rw [List.length_map] at this; omega, ?_⟩
  simp only [hass, List.map_map]
  refine List.map_congr_left fun e he => ?_
  simp only [Function.comp_apply]
  rw [h.2, g.2]
  have hk : kx (mirE e) = -1 - kx e := rfl
  rw [hk, ← List.map_take]
  simp only [mirE_keys]
theorem enAll_mem {more : Int} {l : List Int} {e : It2} (h : e ∈ enAll more [] l) : kx e ∈ l := by
  have h1 : kx e ∈ (enAll more [] l).map kx := List.mem_map_of_mem h
  rw [enAll_keys] at h1
  rcases (addAll_mem l).1 h1 with h | h
  · cases h
  · exact h
theorem many_eq {m n : Int} (hm : 0 ≤ m ∧ m < 256) {len : Nat} (h0 : 0 < len) (h1 : len ≤ 60) : ∃ n : Nat, addI .i64 1 (remI (IntKind.wrap .i64 m) ((len : Nat) : Int)) = (n : Nat) ∧ 0 < n ∧ n ≤ len := by
  rw [wrap_i64 (by omega) (by omega), remI_eq hm.1]
  have h2 := Int.emod_nonneg m (show ((len : Nat) : Int) ≠ 0 by omega)
  have h3 := Int.emod_lt_of_pos m (show (0 : Int) < ((len : Nat) : Int) by omega)
  rw [addI_i64 (by omega) (by omega)]
  exact ⟨(1 + m % (len : Nat)).toNat, by omega, by omega, by omega⟩
/-- The law. -/
theorem F4_spec {k : Value → W} {w : World} {p1 : Option Addr} {l1 c1 : Nat} {many : Int} {x : List Int} (hX : Shorts w p1 x) (hl1 : l1 = x.length) (hx : I16 x) (hmany : 0 ≤ many ∧ many < 256)
    (hk : ∀ w', Fr (fun _ => False) w w' → k (.bool true) w') : F4 k p1 l1 c1 many w := by
  have hw := hk w (Fr.refl _ _)
  subst hl1
  unfold F4
  refine BIf_intro (fun _ => hw) fun _ => ?_
  refine F7_call (F7_spec (back_bool hw) fun a1 b1 => back_bool ?_)
  simp only [Bool.not_true, BIf_false]
  have lf := enAll_len 0 x
  have pf := enAll_pos (more := 0) a1
  have nf := enAll_nodup 0 x
  have mf : ∀ e ∈ enAll 0 [] x, -32768 ≤ e.1 ∧ e.1 < 32768 := fun e he => hx _ (enAll_mem he)
  refine F12_call (F12_spec (more := 0) hX rfl (by omega) hx (by omega) fun q7 d7 w1 o7 h7 f1 => back_slice ?_)
  generalize enAll 0 [] x = own at *
  have E1 := o7.pairs
  refine F4_L1_rule (fun my op ol oc mp ml mc sp sl sc x9 x10 w' => my = many ∧ op = q7 ∧ ol = own.length ∧ oc = d7 ∧ sp = q7 ∧ sl = own.length ∧ x9 = (own.length : Nat) ∧ ∃ i : Nat, x10 = i ∧ i ≤ own.length ∧ ml = i ∧ OwnN w' 40 2 mp i mc (flat ((own.take i).map mirE)) ∧ (∀ b, bl mp b → w1.heap.size ≤ b) ∧ Fr (fun _ => False) w1 w')
    (fun _ _ _ _ _ _ _ _ _ _ x9 x10 _ => (x9 - x10).toNat) ?_ ⟨rfl, rfl, rfl, rfl, rfl, rfl, rfl, 0, rfl, Nat.zero_le _, rfl, OwnN.nil _ _ _, fun b hb => (by obtain ⟨a, h, _⟩ := hb; cases h), Fr.refl _ _⟩
  rintro my op ol oc mp ml mc sp sl sc x9 x10 w2 ⟨rfl, e1, rfl, e2, e3, rfl, rfl, i, rfl, hi, e5, o2, h2, f2⟩
  obtain rfl := e1.symm; obtain rfl := e2.symm; obtain rfl := e3.symm
  unfold F4_L1
  by_cases hil : i < own.length
  · obtain rfl := e5.symm
    rw [decide_eq_true (by omega)]
    have hget : own[i]? = some (own[i]'(by omega)) := List.getElem?_eq_getElem _
    generalize own[i]'(by omega) = e at hget
    have hme := mf e (List.mem_of_getElem? hget)
    obtain ⟨a, rfl, k1, k2⟩ := E1.fr0 f2 i e hget
    simp only [BIf_true, NN_mk, Int.toNat_natCast]
    refine ⟨by omega, LoadT_int.2 ⟨_, k1, LoadT_int.2 ⟨_, k2, ?_⟩⟩⟩
    refine new_intro fun m wd ed bd fd zd => ?_
    refine store_intro (i := 0) bd (by simp) rfl fun we be fe ze => ?_
    refine store_intro (i := 1) be (by simp) rfl fun wf bf ff zf => ?_
    refine load_int (i := 0) bf rfl (load_int (i := 1) bf rfl ?_)
    rw [subI_i64 (by omega) (by omega)]
    have fcf : Fr (fun _ => False) w2 wf := (fd.trans fe fun b h => .inr (by have : b = m := h; omega)).trans ff fun b h => .inr (by have : b = m := h; omega)
    refine qS (x := mirE e) fun qg wg bg fg => ?_
    refine qSa ((o2.fr fcf fun _ _ h => h).fr fg fun _ _ h => h) bg (by omega) fun p' c' wh oh hp' kh fh => ?_
    rw [add_one (by omega)]
    have fbg := (f2.trans fcf fun _ h => h.elim).trans fg fun _ h => h.elim
    refine ⟨⟨(by trivial), (by trivial), (by trivial), (by trivial), (by trivial), (by trivial), (by trivial), i + 1, rfl, by omega, (by trivial), by rw [take_snoc hget, List.map_append]; exact oh, fun b hb => (hp' b hb).elim (h2 b) fun h => by have := fbg.size; omega, fbg.trans fh fun b hb => .inr (h2 b hb)⟩, by omega⟩
  have : i = own.length := by omega
  subst this
  rw [decide_eq_false (by omega)]
  simp only [BIf_false]
  rw [List.take_length] at o2
  have hml : (own.map mirE).length = own.length := List.length_map ..
  obtain ⟨n, hn, hn0, hn1⟩ := many_eq (n := 0) hmany pf (by omega)
  refine ⟨by omega, bind_intro ?_⟩
  rw [hn]
  have o7' := o7.fr f2 fun _ _ h => h
  have hcap : own.length ≤ d7 := by rcases o7'.2 with ⟨_, h1, _⟩ | ⟨_, _, _, _, _, h1, _⟩ <;> omega
  have hcap2 : own.length ≤ mc := by rcases o2.2 with ⟨_, h1, _⟩ | ⟨_, _, _, _, _, h1, _⟩ <;> omega
  simp only [Int.toNat_natCast, Nat.sub_zero]
  obtain ⟨jj, j1, j2, j3, j4⟩ := inf46
  have htk : n = (own.take n).length := by simp; omega
  have htk2 : n = ((own.map mirE).take n).length := by simp; omega
  refine ⟨by omega, ?_⟩
  have e7 : Edges w2 q7 own := o7'.pairs
  have e7s : Edges w2 (sliceA q7 0 d7 2) (own.take n) := by have := edges_sub (lo := 0) (hi := n) o7'; rwa [List.drop_zero] at this
  have em : Edges w2 mp (own.map mirE) := o2.pairs
  have ems : Edges w2 (sliceA mp 0 mc 2) ((own.map mirE).take n) := by have := edges_sub (lo := 0) (hi := n) o2; rwa [List.drop_zero] at this
  have b47a : ∀ {K : Option Addr → Nat → Nat → W} {w3 : World}, (∀ w', Fr (fun _ => False) w3 w' → Blk w' w3.heap.size 46 (([⟨1, 0, q7, d7, own⟩, ⟨2, 1, sliceA q7 0 d7 2, d7, own.take n⟩] : List Stp).flatMap stc) → K (some ⟨w3.heap.size, 0, none⟩) 2 2 w') → RawT Try.prog (Instr.buildSlice 47 2 [(0, .agg #[.int .i64 1, .int .i64 0, .slice q7 own.length d7]), (1, .agg #[.int .i64 2, .int .i64 1, .slice (sliceA q7 0 d7 2) n d7])].toArray) (.s (.one .slice)) K w3 := fun {K w3} hK => by
    have hf := fill47_2 ⟨1, 0, q7, d7, own⟩ ⟨2, 1, sliceA q7 0 d7 2, d7, own.take n⟩ jj j3
    simp only [← htk] at hf
    exact build_intro und47 j1 j2 (by omega) (by omega) hf fun w' f b z => hK w' f b
  have b47b : ∀ {K : Option Addr → Nat → Nat → W} {w3 : World}, (∀ w', Fr (fun _ => False) w3 w' → Blk w' w3.heap.size 46 (([⟨1, 0, mp, mc, own.map mirE⟩, ⟨2, 1, sliceA mp 0 mc 2, mc, (own.map mirE).take n⟩] : List Stp).flatMap stc) → K (some ⟨w3.heap.size, 0, none⟩) 2 2 w') → RawT Try.prog (Instr.buildSlice 47 2 [(0, .agg #[.int .i64 1, .int .i64 0, .slice mp own.length mc]), (1, .agg #[.int .i64 2, .int .i64 1, .slice (sliceA mp 0 mc 2) n mc])].toArray) (.s (.one .slice)) K w3 := fun {K w3} hK => by
    have hf := fill47_2 ⟨1, 0, mp, mc, own.map mirE⟩ ⟨2, 1, sliceA mp 0 mc 2, mc, (own.map mirE).take n⟩ jj j3
    simp only [← htk2, hml] at hf
    exact build_intro und47 j1 j2 (by omega) (by omega) hf fun w' f b z => hK w' f b
  refine b47a fun w3 f3 b3 => ?_
  refine F13_call (F13_spec [⟨1, 0, q7, d7, own⟩, ⟨2, 1, sliceA q7 0 d7 2, d7, own.take n⟩] rfl (Mir own n) b3 (fun s hs => ?_) (by simp) (by simp) (e7.fr0 f3) rfl pf (by omega) (mir nf hn0 hn1 (by omega)) fun r L w4 hL R4 f4 => back_saidb ?_)
  · simp only [List.mem_cons, List.not_mem_nil, or_false] at hs
    rcases hs with rfl | rfl
    · exact e7.fr0 f3
    · exact e7s.fr0 f3
  refine new_intro fun n26 w5 e5' b5 f5 z5 => ?_
  refine store_intro (i := 0) b5 (by simp) rfl fun w6 b6 f6 z6 => ?_
  refine store_intro (i := 1) b6 (by simp) rfl fun w7 b7 f7 z7 => ?_
  refine store_intro (i := 2) b7 (by simp) rfl fun w8 b8 f8 z8 => ?_
  have f48 : Fr (fun _ => False) w4 w8 := ((f5.trans f6 fun b h => .inr (by have : b = n26 := h; omega)).trans f7 fun b h => .inr (by have : b = n26 := h; omega)).trans f8 fun b h => .inr (by have : b = n26 := h; omega)
  refine ⟨by omega, ?_⟩
  have f28 := (f3.trans f4 fun _ h => h.elim).trans f48 fun _ h => h.elim
  rw [e5]
  refine b47b fun w9 f9 b9 => ?_
  have f29 := f28.trans f9 fun _ h => h.elim
  refine F13_call (F13_spec [⟨1, 0, mp, mc, own.map mirE⟩, ⟨2, 1, sliceA mp 0 mc 2, mc, (own.map mirE).take n⟩] rfl (Mir (own.map mirE) n) b9 (fun s hs => ?_) (by simp) (by simp) (em.fr0 f29) hml.symm (by omega) (by omega) (mir (mirE_nodup nf) hn0 (by omega) (by omega)) fun r' M wa hM Ra fa => back_saidb ?_)
  · simp only [List.mem_cons, List.not_mem_nil, or_false] at hs
    rcases hs with rfl | rfl
    · exact em.fr0 f29
    · exact ems.fr0 f29
  refine new_intro fun n32 wb eb bb fb zb => ?_
  refine store_intro (i := 0) bb (by simp) rfl fun wc bc fc zc => ?_
  refine store_intro (i := 1) bc (by simp) rfl fun wd bd fd zd => ?_
  refine store_intro (i := 2) bd (by simp) rfl fun we be fe ze => ?_
  have fae : Fr (fun _ => False) wa we := ((fb.trans fc fun b h => .inr (by have : b = n32 := h; omega)).trans fd fun b h => .inr (by have : b = n32 := h; omega)).trans fe fun b h => .inr (by have : b = n32 := h; omega)
  have f8e := (f9.trans fa fun _ h => h.elim).trans fae fun _ h => h.elim
  have b26 := b8.fr f8e id
  have RR := (R4.fr0 f48).fr0 f8e
  have RM := Ra.fr0 fae
  obtain ⟨hs1, hs2⟩ := mir_same hL hM
  simp only [BIf_true]
  refine load_int (i := 0) b26 rfl (load_int (i := 0) be rfl ?_)
  rw [show (r.n == r'.n) = true by rw [RR.n, RM.n]; simp [hs1]]
  simp only [BIf_true]
  refine load_slice (i := 2) b26 rfl (load_slice (i := 2) be rfl ?_)
  refine F14_call ?_
  rw [RR.hl, RM.hl]
  refine F14_spec RR.has RM.has (by simp [hass]; omega) fun wf ff => back_bool ?_
  rw [decide_eq_true hs2]
  simp only [BIf_true]
  refine load_int (i := 0) (b26.fr ff id) rfl (bind_intro ?_)
  have hsub : subI .i64 ((own.length : Nat) : Int) ((n : Nat) : Int) = ((own.length - n : Nat) : Int) := by rw [subI_i64 (by omega) (by omega)]; omega
  have hLl := hL.1
  rw [hsub, RR.n]
  rw [show ((((L.length : Nat) : Int)) == ((own.length - n : Nat) : Int)) = true by rw [beq_iff_eq]; omega]
  exact hk wf ((((f1.trans f2 fun _ h => h.elim).trans f28 fun _ h => h.elim).trans f8e fun _ h => h.elim).trans ff fun _ h => h.elim)
end Go.Proofs.Ytokejbejoegnnaa.E
