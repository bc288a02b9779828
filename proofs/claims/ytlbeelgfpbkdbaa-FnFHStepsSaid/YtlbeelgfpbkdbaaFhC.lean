/-
  What comes out of a heap, walked.
-/
import Derived.Test.YtlbeelgfpbkdbaaFhB
namespace Go.Proofs.Ytlbeelgfpbkdbaa.E
open Go
set_option linter.unusedSimpArgs false
set_option linter.unusedVariables false
set_option maxRecDepth 100000
set_option maxHeartbeats 4000000

def Kn : PS := fun _ _ out => ∃ a b, out = [a, b, ⟨1, 4, 1⟩]
theorem known : After Kn [⟨1, 0, 7⟩, ⟨1, 0, 4⟩, ⟨3, 0, 0⟩] [] none [] := by
  refine ⟨⟨(by unfold Fit; decide), by simp, .inl rfl⟩, fun Q1 m1 d1 s1 => ?_⟩
  cases s1 with
  | look a b c => cases a
  | dec a b => cases a
  | deq a b c d => cases a
  | @enq mi' a b =>
    refine ⟨⟨(by unfold Fit; decide), by simp, .inl rfl⟩, fun Q2 m2 d2 s2 => ?_⟩
    cases s2 with
    | look a b c => cases a
    | dec a b => cases a
    | deq a b c d => cases a
    | @enq mi2 a2 b2 =>
      refine ⟨⟨fit0, by simp, .inr (.inl ⟨.inr rfl, by simp [cnt]⟩)⟩, fun Q3 m3 d3 s3 => ?_⟩
      cases s3 with
      | look a b c => cases a
      | dec a b => cases a
      | enq a b => cases a
      | @deq i v mi' h1 h2 h3 h4 =>
        rcases b2 with ⟨h, _⟩ | ⟨i', v', e1, e2, e3⟩
        · exact absurd rfl (h 1 4)
        · rw [h2] at e1; cases e1
          rw [h3] at e2; cases e2
          have hv := e3 1 4 rfl
          match i, h3 with
          | 0, h3 => simp at h3; omega
          | 1, h3 => simp at h3; subst h3; exact ⟨⟨0, 7, 1⟩, ⟨1, 4, 2⟩, rfl⟩
          | i + 2, h3 => simp at h3
theorem back_sb {f : Option Addr → Nat → Nat → Bool → W} {p : Option Addr} {m d : Nat} {b : Bool} {w : World} (h : f p m d b w) : Back (.tup [(.one .slice), (.one .bool)]) f (.returned (.tuple #[.slice p m d, .bool b])) w := ⟨((p, m, d), b, ()), rfl, h⟩
theorem fill24 (x : Int) : ∀ i : TypeInfo, i.size = 1 → Instr.fill (fun j => some (j * i.size, i.size)) ((Array.range (1 * i.size)).map ((Value.int .i64 0).cells[· % (Value.int .i64 0).cells.size]!)) [(0, .int .i64 x)] = some [Value.int .i64 x].toArray := by
  intro i h
  rw [h]
  kernel_rfl
/-- One more number. -/
theorem int1 {K : Option Addr → Nat → Nat → W} {w : World} {p : Option Addr} {l c : Nat} {xs : List Int} {x : Int} (h : Own w 3 p l c (ints xs)) (hb : l < 100000)
    (hk : ∀ p' c' w', Fr (fun b => bl p b) w w' → Own w' 3 p' (l + 1) c' (ints (xs ++ [x])) → (∀ b, bl p' b → bl p b ∨ w.heap.size ≤ b) → K p' (l + 1) c' w') :
    RawT Try.prog (Instr.buildSlice 24 1 [(0, .int .i64 x)].toArray) (.s (.one .slice)) (fun a m d => NextT Try.prog (builtin .append #[24, 24] 24 [false, false].toArray [.slice p l c, .slice a m d].toArray) (.s (.one .slice)) K) w := by
  obtain ⟨ii, g1, g2, g3, g4⟩ := inf3
  refine append1 (P := Try.prog) und24 g1 g2 g3 rfl (by omega) h rfl rfl (by omega) fun p' c' w' f' o' hp' hs' => ?_
  exact hk p' c' w' f' (by simpa [ints] using o') hp'
/-- dfOut. -/
theorem F7_spec {k : Value → W} {w : World} {p : Option Addr} {n c m : Nat} (ss : List FS) (V : List Int → Prop) (hS : Steps w p n c ss) (h0 : 0 < n) (hn : n ≤ 300) (hm0 : 0 < m) (hm : m ≤ 100) (hA : After (fun Q mi out => cnt Q = m ∧ V (inn Q)) ss [] none [])
    (hk : ∀ op oc w' v o, V v → Ext v o → o.length = m → Own w' 3 op m oc (ints o) → NewS w.heap.size op → Fr (fun _ => False) w w' → k (.tuple #[.slice op m oc, .bool true]) w') : F7 k p n c (m : Nat) w := by
  have hlen := hS.len
  subst hlen
  unfold F7
  refine step3 (s := ⟨1, 0, 7⟩) (t := ⟨1, 0, 4⟩) (u := ⟨3, 0, 0⟩) fun q w1 b1 f1 e1 => ?_
  refine F9_call (F9_spec [⟨1, 0, 7⟩, ⟨1, 0, 4⟩, ⟨3, 0, 0⟩] Kn (OwnN.made b1 rfl (by decide)) (by omega) known fun op oc w2 Q mi out hK hol O hO f2 => back_slice ?_)
  obtain ⟨a, b, rfl⟩ := hK
  rw [show ((((3 : Nat)) : Int) != 3) = false from rfl]
  obtain ⟨qo, rest, rfl, _⟩ := O.get (by omega)
  have C : ∀ j, j < 15 → w2.cell? ⟨qo, j, none⟩ = (([a, b, ⟨1, 4, 1⟩] : List FD).flatMap sdc)[j]? := fun j hj => O.cell hj
  simp only [BIf_false, NN_mk]
  refine ⟨by omega, LoadT_int.2 ⟨4, C 12 (by omega), ?_⟩⟩
  rw [show ((4 : Int) != 4) = false from rfl]
  simp only [BIf_false, NN_mk]
  refine ⟨by omega, LoadT_int.2 ⟨1, C 11 (by omega), ?_⟩⟩
  rw [show ((1 : Int) != 1) = false from rfl]
  simp only [BIf_false, NN_mk]
  refine ⟨by omega, LoadT_int.2 ⟨1, C 13 (by omega), ?_⟩⟩
  rw [show ((1 : Int) != 1) = false from rfl]
  unfold F7_J1
  simp only [BIf_false]
  have f02 := f1.trans f2 fun _ h => h.elim
  refine F12_call (F12_spec (OwnN.fr hS f02 fun _ _ h => h) (by omega) h0 fun p3 c3 w3 S3 N3 f3 => back_slice ?_)
  have f03 := f02.trans f3 fun _ h => h.elim
  have N3' : NewS w.heap.size p3 := fun b hb => by have := N3 b hb; have := f02.size; omega
  refine F7_L1_rule (fun many n10 ap al ac x12 x13 w' => many = (m : Nat) ∧ n10 = (ss.length : Nat) ∧ x12 = (m : Nat) ∧ ∃ i : Nat, x13 = i ∧ i ≤ m ∧ al = ss.length + i ∧ Steps w' ap (ss.length + i) ac (ss ++ List.replicate i dq) ∧ NewS w.heap.size ap ∧ Fr (fun _ => False) w w')
    (fun _ _ _ _ _ x12 x13 _ => (x12 - x13).toNat) ?_ ⟨rfl, rfl, rfl, 0, rfl, Nat.zero_le _, rfl, by simpa using S3, N3', f03⟩
  rintro many n10 ap al ac x12 x13 wa ⟨rfl, rfl, rfl, i, rfl, hi, eal, S, N, f0⟩
  obtain rfl := eal.symm
  unfold F7_L1
  by_cases hil : i < m
  · rw [decide_eq_true (by omega)]
    simp only [BIf_true]
    refine step1 (s := dq) fun q wb bb fb eb => ?_
    refine steps_more (tt := [dq]) (OwnN.fr S fb fun _ _ h => h) bb rfl (by omega) fun p' c' wc oc hp' fc => ?_
    have f0b := f0.trans fb fun _ h => h.elim
    rw [add_one (by omega)]
    refine ⟨⟨(by trivial), (by trivial), (by trivial), i + 1, rfl, by omega, (by omega), ?_, fun b hb => (hp' b hb).elim (N b) fun h => by have := f0b.size; omega, f0b.trans fc fun b hb => .inr (N b hb)⟩, by omega⟩
    rw [List.replicate_succ', ← List.append_assoc]; exact oc
  have : i = m := by omega
  subst this
  rw [decide_eq_false (by omega)]
  simp only [BIf_false]
  have hA2 : After (fun Q mi out => ∃ (o1 o : List FD) (v : List Int), out = o1 ++ o ∧ o1.length = ss.length ∧ o.length = i ∧ V v ∧ Ext v (o.map (·.p)) ∧ ∃ d, o[i - 1]? = some d ∧ d.z = 0) (ss ++ List.replicate i dq) [] none [] := by
    refine After.append (After.imp ?_ (After.more min0 hA))
    rintro Q mi out ⟨h1, h2, h3, h4, h5⟩
    simp only [List.length_nil, Nat.zero_add] at h2 h3
    refine after_dq _ i h1 (by omega) h4.symm fun Q' mi' o a1 a2 a3 a4 => ?_
    exact ⟨out, o, _, rfl, h3, a3, h5, a2, a4 hm0⟩
  refine F9_call (F9_spec _ _ S (by omega) hA2 fun op oc' wb Q mi out hQ hol' O' hO' fb => back_slice ?_)
  obtain ⟨o1, o, v, rfl, ho1, ho, hV, hE, d, hd1, hd2⟩ := hQ
  rw [show ((((ss.length + i : Nat)) : Int) != ((ss.length + i : Nat) : Int)) = false by simp]
  simp only [BIf_false]
  rw [decide_eq_true (show ((i : Nat) : Int) > 0 by omega)]
  simp only [BIf_true]
  have e1 : subI .i64 ((ss.length + i : Nat) : Int) 1 = ((ss.length + (i - 1) : Nat) : Int) := by rw [subI_i64 (by omega) (by omega)]; omega
  rw [e1]
  have hd : (o1 ++ o)[ss.length + (i - 1)]? = some d := by rw [List.getElem?_append_right (by omega), ho1, Nat.add_sub_cancel_left]; exact hd1
  obtain ⟨q', rfl, C'⟩ := OwnN.rec O' sdc_len (by omega) hd
  simp only [NN_mk, Int.toNat_natCast]
  have ca : ∀ i j, ((⟨q', 0, none⟩ : Addr).add (i * 5)).add j = ⟨q', i * 5 + j, none⟩ := fun i j => by rw [add_mk, add_mk, Nat.zero_add]
  refine ⟨by omega, LoadT_bool.2 ⟨true, by rw [ca, C' 4 (by omega)]; show some (Value.bool (decide (d.z = 0))) = _; rw [hd2]; rfl, ?_⟩⟩
  unfold F7_J2
  simp only [Bool.not_true, BIf_false]
  have f0b := f0.trans fb fun _ h => h.elim
  refine F7_L2_rule (fun n21 op ol oc sp sl sc x24 x25 w' => n21 = (ss.length : Nat) ∧ sp = some ⟨q', 0, none⟩ ∧ sl = ss.length + i ∧ x24 = ((ss.length + i : Nat) : Int) ∧ ∃ j : Nat, x25 = j ∧ j ≤ ss.length + i ∧ ol = j - ss.length ∧ Own w' 3 op (j - ss.length) oc (ints ((o.map (·.p)).take (j - ss.length))) ∧ NewS wb.heap.size op ∧ Fr (fun _ => False) wb w')
    (fun _ _ _ _ _ _ _ x24 x25 _ => (x24 - x25).toNat) ?_ ⟨rfl, rfl, rfl, rfl, 0, rfl, Nat.zero_le _, by omega, (by simpa [ints] using Own.nil _ _), (fun b hb => (by obtain ⟨a, h, _⟩ := hb; cases h)), Fr.refl _ _⟩
  rintro n21 op ol oc sp sl sc x24 x25 wc ⟨rfl, rfl, rfl, rfl, j, rfl, hj, eol, Oj, Nj, fc⟩
  obtain rfl := eol.symm
  unfold F7_L2
  by_cases hjl : j < ss.length + i
  · rw [decide_eq_true (by omega)]
    have hget : (o1 ++ o)[j]? = some ((o1 ++ o)[j]'(by simp; omega)) := List.getElem?_eq_getElem _
    generalize (o1 ++ o)[j]'(by simp; omega) = e at hget
    obtain ⟨_, h2, Cj⟩ := OwnN.rec (OwnN.fr O' fc fun _ _ h => h) sdc_len (by omega) hget
    cases h2
    simp only [BIf_true, NN_mk, Int.toNat_natCast]
    refine ⟨by omega, LoadT_bool.2 ⟨_, by rw [ca]; exact Cj 0 (by omega), LoadT_int.2 ⟨_, by rw [ca]; exact Cj 1 (by omega), LoadT_int.2 ⟨_, by rw [ca]; exact Cj 2 (by omega), LoadT_int.2 ⟨_, by rw [ca]; exact Cj 3 (by omega), LoadT_bool.2 ⟨_, by rw [ca]; exact Cj 4 (by omega), ?_⟩⟩⟩⟩⟩⟩
    refine new_intro fun n27 wh eh bh fh zh => ?_
    refine store_intro (i := 0) bh (by simp) rfl fun w10 b10 f10 z10 => ?_
    refine store_intro (i := 1) b10 (by simp) rfl fun w11 b11 f11 z11 => ?_
    refine store_intro (i := 2) b11 (by simp) rfl fun w12 b12 f12 z12 => ?_
    refine store_intro (i := 3) b12 (by simp) rfl fun w13 b13 f13 z13 => ?_
    refine store_intro (i := 4) b13 (by simp) rfl fun w14 b14 f14 z14 => ?_
    have fh14 : Fr (fun x => x = n27) wh w14 := (((f10.trans f11 fun x e => .inl e).trans f12 fun x e => .inl e).trans f13 fun x e => .inl e).trans f14 fun x e => .inl e
    have fc14 : Fr (fun _ => False) wc w14 := fh.trans fh14 fun x e => .inr (by have : x = n27 := e; omega)
    have fb14 := fc.trans fc14 fun _ h => h.elim
    refine load_bool (i := 0) b14 rfl ?_
    simp only [Bool.not_true, BIf_false]
    have O14 := Oj.fr fc14 fun _ _ h => h
    by_cases hjn : ss.length ≤ j
    · rw [decide_eq_true (show ((j : Nat) : Int) ≥ ((ss.length : Nat) : Int) by omega)]
      simp only [BIf_true]
      refine load_int (i := 2) b14 rfl ?_
      refine int1 O14 (by omega) fun p' c' wd fd od hp' => ?_
      rw [add_one (by omega)]
      have ho : o[j - ss.length]? = some e := by rw [List.getElem?_append_right (by omega), ho1] at hget; exact hget
      have hs : j + 1 - ss.length = j - ss.length + 1 := by omega
      refine ⟨⟨(by trivial), (by trivial), (by trivial), (by trivial), j + 1, rfl, by omega, hs.symm, ?_, fun b hb => (hp' b hb).elim (Nj b) fun h => by have := fb14.size; omega, fb14.trans fd fun b hb => .inr (Nj b hb)⟩, by omega⟩
      rw [hs, take_snoc (show (o.map (·.p))[j - ss.length]? = some e.p by rw [List.getElem?_map, ho]; rfl)]; exact od
    · rw [decide_eq_false (show ¬ ((j : Nat) : Int) ≥ ((ss.length : Nat) : Int) by omega)]
      simp only [BIf_false]
      rw [add_one (by omega)]
      have hs : j + 1 - ss.length = j - ss.length := by omega
      exact ⟨⟨(by trivial), (by trivial), (by trivial), (by trivial), j + 1, rfl, by omega, hs.symm, by rw [hs]; exact O14, Nj, fb14⟩, by omega⟩
  have : j = ss.length + i := by omega
  subst this
  rw [decide_eq_false (by omega)]
  simp only [BIf_false]
  rw [Nat.add_sub_cancel_left] at Oj ⊢
  have ht : (o.map (·.p)).take i = o.map (·.p) := List.take_of_length_le (by simp; omega)
  rw [ht] at Oj
  exact hk op oc wc v _ hV hE (by simpa using ho) Oj (fun b hb => by have := Nj b hb; have := f0b.size; omega) (f0b.trans fc fun _ h => h.elim)
end Go.Proofs.Ytlbeelgfpbkdbaa.E
