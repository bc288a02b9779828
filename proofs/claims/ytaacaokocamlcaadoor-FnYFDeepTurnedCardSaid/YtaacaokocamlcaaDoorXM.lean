/-
  An x-fast trie as its callers see it: a map of keys.
-/
import Derived.Test.YtaacaokocamlcaaDoorXJ
namespace Go.Proofs.YtaacaokocamlcaaDoor.E
open Go
set_option linter.unusedSimpArgs false
set_option linter.unusedVariables false
set_option maxRecDepth 100000
set_option maxHeartbeats 8000000

structure XSt where
  m : Nat → Option Value
  num : Nat
  mn : Option Nat
  mx : Option Nat
def XSt.ins (s : XSt) (e : Nat × Value) : XSt := ⟨fun q => if q = e.1 then some e.2 else s.m q, s.num + (if s.m e.1 = none then 1 else 0), some (lo s.mn e.1), some (hi s.mx e.1)⟩
def XSt.insAll (s : XSt) (es : List (Nat × Value)) : XSt := es.foldl XSt.ins s
def XSt.new : XSt := ⟨fun _ => none, 0, none, none⟩
theorem XSt.ins_num (s : XSt) (e : Nat × Value) : (s.ins e).num ≤ s.num + 1 := by
  show s.num + _ ≤ _; split <;> omega
theorem XSt.insAll_snoc (s : XSt) (es : List (Nat × Value)) (e : Nat × Value) : s.insAll (es ++ [e]) = (s.insAll es).ins e := by
  unfold XSt.insAll; rw [List.foldl_append]; rfl
theorem XSt.insAll_num : ∀ (es : List (Nat × Value)) (s : XSt), (s.insAll es).num ≤ s.num + es.length
  | [], s => Nat.le_refl _
  | e :: es, s => by
    have h1 := XSt.insAll_num es (s.ins e)
    have h2 := s.ins_num e
    show ((s.ins e).insAll es).num ≤ _
    simp only [List.length_cons]; omega
def XT (w : World) (a B : Nat) (S : Nat → Prop) (s : XSt) : Prop :=
  ∃ ls mm N c pa en, XH w a ls B mm N c pa en s.mn s.mx s.num ∧ T0 B N c s.mn s.mx ∧ Nl B N c s.mn s.mx ∧ Tabs w ∧ 1 < B ∧ (∀ b, S b ↔ XS a B mm N b ∨ b = ls) ∧ (∀ b, S b → 2 ≤ b) ∧ ∀ q, (N B q).map en = s.m q
namespace XT
variable {w w' : World} {a B : Nat} {S S0 : Nat → Prop} {s : XSt}
theorem kinds (h : XT w a B S s) {b t : Nat} {us : List Value} (hb : S b) (hB : Blk w b t us) : t = 82 ∨ t = 88 ∨ t = 91 := by
  obtain ⟨ls, mm, N, c, pa, en, H, T, M, Ta, hB2, hS, hlow, hm⟩ := h
  rcases (hS b).1 hb with (rfl | ⟨i, hi, rfl⟩ | ⟨i, p, h⟩) | rfl
  · exact .inl (hB.unique H.hd).1
  · obtain ⟨l, hM, _⟩ := H.la.mp i hi
    exact absurd rfl (hM.not_blk hB)
  · exact .inr (.inr (hB.unique (H.nd.nd h)).1)
  · exact .inr (.inl (hB.unique H.la.ly).1)
theorem lt (h : XT w a B S s) {b : Nat} (hb : S b) : b < w.heap.size := by
  obtain ⟨ls, mm, N, c, pa, en, H, T, M, Ta, hB2, hS, hlow, hm⟩ := h
  rcases (hS b).1 hb with (rfl | ⟨i, hi, rfl⟩ | ⟨i, p, h⟩) | rfl
  · exact H.hd.lt
  · obtain ⟨l, hM, _⟩ := H.la.mp i hi
    exact hM.lt
  · exact (H.nd.nd h).lt
  · exact H.la.ly.lt
theorem low (h : XT w a B S s) {b : Nat} (hb : S b) : 2 ≤ b := by
  obtain ⟨ls, mm, N, c, pa, en, H, T, M, Ta, hB2, hS, hlow, hm⟩ := h
  exact hlow b hb
theorem tabs (h : XT w a B S s) : Tabs w := by
  obtain ⟨ls, mm, N, c, pa, en, H, T, M, Ta, hB2, hS, hlow, hm⟩ := h
  exact Ta
theorem own (h : XT w a B S s) : S a := by
  obtain ⟨ls, mm, N, c, pa, en, H, T, M, Ta, hB2, hS, hlow, hm⟩ := h
  exact (hS a).2 (.inl (.inl rfl))
theorem kp (h : XT w a B S s) {q : Nat} {v : Value} (hv : s.m q = some v) : KP w v q ∧ q < 2 ^ B := by
  obtain ⟨ls, mm, N, c, pa, en, H, T, M, Ta, hB2, hS, hlow, hm⟩ := h
  have := hm q
  rw [hv] at this
  cases hN : N B q with
  | none => rw [hN] at this; cases this
  | some x =>
    rw [hN] at this
    cases this
    exact ⟨H.nd.eB hN, T.klt hN⟩
theorem fr (h : XT w a B S s) (f : Fr S0 w w') (hd : ∀ b, S b → ¬ S0 b) (h0 : ¬ S0 0) (h1 : ¬ S0 1) (hk : ∀ q v, s.m q = some v → KP w' v q) : XT w' a B S s := by
  obtain ⟨ls, mm, N, c, pa, en, H, T, M, Ta, hB2, hS, hlow, hm⟩ := h
  refine ⟨ls, mm, N, c, pa, en, ⟨H.hd.fr f (hd _ ((hS a).2 (.inl (.inl rfl)))), H.la.fr f (hd _ ((hS ls).2 (.inr rfl))) fun i hi => hd _ ((hS _).2 (.inl (.inr (.inl ⟨i, hi, rfl⟩)))), ⟨fun {i p x} h => (H.nd.nd h).fr f (hd _ ((hS x).2 (.inl (.inr (.inr ⟨i, p, h⟩))))), H.nd.e0, fun {q x} h => ?_, H.nd.p0, H.nd.pS⟩⟩, T, M, Ta.fr f h0 h1, hB2, hS, hlow, hm⟩
  refine hk q _ ?_
  rw [← hm, h]; rfl
theorem fr0 (h : XT w a B S s) (f : Fr (fun _ => False) w w') : XT w' a B S s := h.fr f (fun _ _ => id) id id fun q v hv => (h.kp hv).1.fr0 f
theorem ins {k : Value → W} {key : Nat} {e : Value} (h : XT w a B S s) (hkey : key < 2 ^ B) (hnum : s.num < 4294967296) (he : KP w e key)
    (hk : ∀ S' w', XT w' a B S' (s.ins (key, e)) → (∀ b, S' b → S b ∨ w.heap.size ≤ b) → Fr S w w' → k (.tuple #[]) w') : F42 k (some ⟨a, 0, none⟩) e w := by
  obtain ⟨ls, mm, N, c, pa, en, H, T, M, Ta, hB2, hS, hlow, hm⟩ := h
  refine F42_spec Ta H T M hB2 (fun b hb => hlow b ((hS b).2 (.inl hb))) hkey hnum he fun w' hI => ?_
  obtain ⟨N', c', pa', en', H', T', M', hm', hX, f, Ta'⟩ := hI
  have hls := H.la.ly.lt
  have hsz := H.hd.lt
  refine hk (fun b => XS a B mm N' b ∨ b = ls) w' ⟨ls, mm, N', c', pa', en', ?_, T', M', Ta', hB2, fun b => Iff.rfl, fun b hb => ?_, fun q => ?_⟩ (fun b hb => ?_) (f.mono fun b hb => .inl ((hS b).2 (.inl hb)))
  · have e1 : (s.ins (key, e)).num = s.num + (if N B key = none then 1 else 0) := by
      show s.num + (if s.m key = none then 1 else 0) = _
      rw [← hm]
      cases hN : N B key <;> simp
    rw [e1]; exact H'
  · have h2 := hlow a ((hS a).2 (.inl (.inl rfl)))
    rcases hb with hb | rfl
    · rcases hX b hb with h | h
      · exact hlow b ((hS b).2 (.inl h))
      · omega
    · exact hlow b ((hS b).2 (.inr rfl))
  · show _ = if q = key then some e else s.m q
    rw [hm' q, ← hm q]
  · rcases hb with hb | rfl
    · exact (hX b hb).imp (fun h => (hS b).2 (.inl h)) id
    · exact .inl ((hS b).2 (.inr rfl))
theorem get {k : Value → W} {key : Nat} (h : XT w a B S s) (hk : ∀ w', Fr (fun _ => False) w w' → k ((s.m key).getD .nilIface) w') : F27 k (some ⟨a, 0, none⟩) (key : Nat) w := by
  obtain ⟨ls, mm, N, c, pa, en, H, T, M, Ta, hB2, hS, hlow, hm⟩ := h
  have hB64 := H.la.b64
  unfold F27
  refine drw_intro fun w2 f2 z2 => ?_
  have H2 := H.fr0 f2
  simp only [NN_mk]
  refine load_slice (i := 0) H2.hd rfl (load_int (i := 3) H2.hd rfl ?_)
  have e1 : subI .u8 ((B : Nat) : Int) 1 = ((B - 1 : Nat) : Int) := by
    show IntKind.wrap .u8 _ = _
    rw [wrap_u8 (by omega) (by omega)]; omega
  rw [e1]
  simp only [NN_mk, Int.toNat_natCast]
  obtain ⟨l, hM, hl⟩ := H2.leafmap (by omega)
  refine ⟨by omega, LoadT_map.2 ⟨_, by rw [add_mk, Nat.zero_add]; exact H2.la.map (by omega), ?_⟩⟩
  refine look_p hM (o := N B key) (hl key) ?_
  refine ⟨by show w2.cell? ⟨a, 3, none⟩ = _; rw [H2.hd.cell]; rfl, by show w2.cell? ⟨a, 0, none⟩ = _; rw [H2.hd.cell]; rfl, ?_⟩
  have := hk w2 f2
  rw [← hm key] at this
  cases hN : N B key with
  | none =>
    rw [hN] at this
    simp only [oA_none, Option.isNone_none, BIf_true]
    exact this
  | some x =>
    rw [hN] at this
    simp only [oA_some, Option.isNone_some, BIf_false, NN_mk]
    exact load_any (i := 0) (H2.nd.nd hN) rfl this
theorem len {k : Value → W} (h : XT w a B S s) (hk : k (.int .u64 (s.num : Nat)) w) : F30 k (some ⟨a, 0, none⟩) w := by
  obtain ⟨ls, mm, N, c, pa, en, H, T, M, Ta, hB2, hS, hlow, hm⟩ := h
  unfold F30
  simp only [NN_mk]
  exact load_int (i := 2) H.hd rfl hk
theorem min {k : Value → W} (h : XT w a B S s) (hk : k ((s.mn.bind s.m).getD .nilIface) w) : F31 k (some ⟨a, 0, none⟩) w := by
  obtain ⟨ls, mm, N, c, pa, en, H, T, M, Ta, hB2, hS, hlow, hm⟩ := h
  unfold F31
  simp only [NN_mk]
  refine load_pO (p := lfo N B s.mn) (i := 5) H.hd rfl ?_
  cases hn : s.mn with
  | none =>
    rw [hn] at hk
    simp only [lfo, Option.bind_none, oA_none, Option.isNone_none, BIf_true]
    exact hk
  | some q =>
    obtain ⟨⟨x, hx⟩, _⟩ := T.mn1 hn
    rw [hn] at hk
    have e : (Option.bind (some q) s.m) = some (en x) := by show s.m q = _; rw [← hm q, hx]; rfl
    rw [e] at hk
    have hl : lfo N B (some q) = some x := hx
    rw [hl]
    simp only [oA_some, Option.isNone_some, BIf_false]
    refine load_pO (p := lfo N B s.mn) (i := 5) H.hd rfl ?_
    rw [hn, hl]
    simp only [oA_some, NN_mk]
    exact load_any (i := 0) (H.nd.nd hx) rfl hk
theorem max {k : Value → W} (h : XT w a B S s) (hk : k ((s.mx.bind s.m).getD .nilIface) w) : F32 k (some ⟨a, 0, none⟩) w := by
  obtain ⟨ls, mm, N, c, pa, en, H, T, M, Ta, hB2, hS, hlow, hm⟩ := h
  unfold F32
  simp only [NN_mk]
  refine load_pO (p := lfo N B s.mx) (i := 6) H.hd rfl ?_
  cases hn : s.mx with
  | none =>
    rw [hn] at hk
    simp only [lfo, Option.bind_none, oA_none, Option.isNone_none, BIf_true]
    exact hk
  | some q =>
    obtain ⟨⟨x, hx⟩, _⟩ := T.mx1 hn
    rw [hn] at hk
    have e : (Option.bind (some q) s.m) = some (en x) := by show s.m q = _; rw [← hm q, hx]; rfl
    rw [e] at hk
    have hl : lfo N B (some q) = some x := hx
    rw [hl]
    simp only [oA_some, Option.isNone_some, BIf_false]
    refine load_pO (p := lfo N B s.mx) (i := 6) H.hd rfl ?_
    rw [hn, hl]
    simp only [oA_some, NN_mk]
    exact load_any (i := 0) (H.nd.nd hx) rfl hk
end XT
/-- New. -/
theorem F22_XT {k : Value → W} {w : World} {B : Nat} (h : Bits B) (Ta : Tabs w) (hk : ∀ a S w', XT w' a B S XSt.new → (∀ b, S b → w.heap.size ≤ b) → Fr (fun _ => False) w w' → k (.pointer (some ⟨a, 0, none⟩)) w') : F22 k (uni B) w := by
  have hB : 1 < B := by rcases h with rfl | rfl | rfl | rfl <;> decide
  refine F22_spec h fun a ls mm r w' H h1 h2 h3 h4 f => ?_
  have hge : ∀ b, XS a B mm (N0 r) b ∨ b = ls → w.heap.size ≤ b := fun b hb => by
    rcases hb with (rfl | ⟨i, hi, rfl⟩ | ⟨i, p, h⟩) | rfl
    · exact h1
    · exact h4 i hi
    · obtain ⟨_, _, rfl⟩ := n0_some.1 h; exact h3
    · exact h2
  refine hk a (fun b => XS a B mm (N0 r) b ∨ b = ls) w' ⟨ls, mm, N0 r, _, _, _, H, t0_new (by omega), nl_new (by omega), Ta.fr f id id, hB, fun b => Iff.rfl, fun b hb => ?_, fun q => ?_⟩ hge f
  · have := hge b hb
    have := Ta.sz
    omega
  · have : N0 r B q = none := by unfold N0; rw [if_neg (by omega)]
    rw [this]; rfl
/-- Insert. -/
theorem F24_XT {k : Value → W} {w : World} {a B t : Nat} {S : Nat → Prop} {s : XSt} {p : Option Addr} {l c : Nat} {es : List (Nat × Value)} (h : XT w a B S s) (hO : Own w t p l c (es.map (·.2))) (hS : ∀ b, bl p b → ¬ S b) (hes : ∀ e ∈ es, KP w e.2 e.1 ∧ e.1 < 2 ^ B) (hl : s.num + l < 4294967296)
    (hk : ∀ S' w', XT w' a B S' (s.insAll es) → (∀ b, S' b → S b ∨ w.heap.size ≤ b) → Fr S w w' → k (.tuple #[]) w') : F24 k (some ⟨a, 0, none⟩) p l c w := by
  have hlen : es.length = l := by have := hO.1; simpa using this
  unfold F24
  refine F24_L1_rule (fun xft sp sl sc n i w' => xft = some ⟨a, 0, none⟩ ∧ sp = p ∧ sl = l ∧ sc = c ∧ n = (l : Nat) ∧ ∃ (j : Nat) (S' : Nat → Prop), i = j ∧ j ≤ l ∧ XT w' a B S' (s.insAll (es.take j)) ∧ (∀ b, S' b → S b ∨ w.heap.size ≤ b) ∧ Fr S w w')
    (fun _ _ _ _ n i _ => (n - i).toNat) ?_ ⟨rfl, rfl, rfl, rfl, rfl, 0, S, rfl, Nat.zero_le _, h, fun b hb => .inl hb, Fr.refl _ _⟩
  rintro xft sp sl sc n i w1 ⟨rfl, rfl, rfl, rfl, rfl, j, S1, rfl, hj, X1, hS1, f1⟩
  unfold F24_L1
  by_cases hlt : j < sl
  · rw [decide_eq_true (by omega)]
    simp only [BIf_true]
    obtain ⟨q, rest, rfl, hB, hc, hm⟩ := hO.get (by omega)
    have hO1 := hO.fr f1 hS
    have hej : es[j]? = some es[j] := List.getElem?_eq_getElem (by omega)
    simp only [NN_mk, Int.toNat_natCast]
    refine ⟨by omega, LoadT_any.2 ⟨es[j].2, by rw [add_mk, Nat.zero_add, hO1.cell hlt, List.getElem?_map, hej]; rfl, ?_⟩⟩
    obtain ⟨hK, hlt2⟩ := hes es[j] (List.getElem_mem _)
    have hnum := XSt.insAll_num (es.take j) s
    rw [List.length_take] at hnum
    have hK1 : KP w1 es[j].2 es[j].1 := hK.fr f1 fun b us hb hb2 => by
      rcases h.kinds hb2 hb with e | e | e <;> exact absurd e (by decide)
    refine F42_call (X1.ins hlt2 (by omega) hK1 fun S2 w2 X2 hS2 f2 => back0 ?_)
    rw [add_one (by omega)]
    have hsz := f1.size
    refine ⟨⟨(by trivial), (by trivial), (by trivial), (by trivial), (by trivial), j + 1, S2, rfl, hlt, ?_, fun b hb => ?_, f1.trans f2 fun b hb => hS1 b hb⟩, by omega⟩
    · rw [take_snoc hej, XSt.insAll_snoc]; exact X2
    · rcases hS2 b hb with hb | hb
      · exact hS1 b hb
      · exact .inr (by omega)
  · have : j = sl := by omega
    subst this
    rw [decide_eq_false (by omega)]
    simp only [BIf_false]
    refine hk S1 w1 ?_ hS1 f1
    rw [← hlen, List.take_length] at X1
    exact X1
end Go.Proofs.YtaacaokocamlcaaDoor.E
