/-
  FnPQMore: the two orders in which the further element is put; every order of the calls.
-/
import Derived.Test.YtbbidbjefdaagaaDoorPqB
namespace Go.Proofs.YtbbidbjefdaagaaDoor.E
open Go Go.Sort
set_option linter.unusedSimpArgs false
set_option linter.unusedVariables false
set_option maxRecDepth 100000
set_option maxHeartbeats 4000000

section
variable {k : Value → W} {n : Nat} {X : It2} {ip : Option Addr} {ic : Nat} {T : List It2} {base : Nat} {Wn : List Int} {sp wp : Option Addr} {sc wc : Nat} {w0 : World}
/-- What holds all the way. -/
structure St (n : Nat) (X : It2) (ip : Option Addr) (ic : Nat) (T : List It2) (base : Nat) (Wn : List Int) (sp wp : Option Addr) (sc wc : Nat) (w0 w : World) : Prop where
  c : Cx w n X ip ic T
  s : Own w 3 sp T.length sc (ints (srt (T.map key)))
  wn : Own w 3 wp Wn.length wc (ints Wn)
  sz : base ≤ w.heap.size
  g : Fr (fun b => base ≤ b) w0 w
theorem St.fr0 {w w' : World} (h : St n X ip ic T base Wn sp wp sc wc w0 w) (f : Fr (fun _ => False) w w') : St n X ip ic T base Wn sp wp sc wc w0 w' :=
  ⟨h.c.fr0 f, h.s.fr f fun _ _ h => h, h.wn.fr f fun _ _ h => h, Nat.le_trans h.sz f.size, h.g.trans f fun _ h => h.elim⟩
theorem chk4 {w : World} {K : W} (hx : Blk w n 28 [.int .i64 X.1, .int .i64 X.2]) (hk : K w) : (Chk1 ((⟨n, 0, none⟩ : Addr).add 0) (.int .i64 X.1) <| Chk1 ((⟨n, 0, none⟩ : Addr).add 1) (.int .i64 X.2) <| Chk1 ((⟨n, 0, none⟩ : Addr).add 0) (.int .i64 X.1) <| Chk1 ((⟨n, 0, none⟩ : Addr).add 1) (.int .i64 X.2) K) w :=
  chk2 hx (chk2 hx hk)
theorem pX {w : World} {K : Option Addr → Nat → Nat → W} (h : St n X ip ic T base Wn sp wp sc wc w0 w) (hk : ∀ q w', Blk w' q 28 (flat [X]) → St n X ip ic T base Wn sp wp sc wc w0 w' → Fr (fun _ => False) w w' → K (some ⟨q, 0, none⟩) 1 1 w') :
    RawT Tryd.prog (Instr.buildSlice 25 1 [(0, .agg #[.int .i64 X.1, .int .i64 X.2])].toArray) (.s (.one .slice)) (fun p l c => Chk1 ((⟨n, 0, none⟩ : Addr).add 0) (.int .i64 X.1) <| Chk1 ((⟨n, 0, none⟩ : Addr).add 1) (.int .i64 X.2) <| K p l c) w :=
  sX h.c fun q w' _ b _ f => hk q w' b (h.fr0 f) f
theorem pOne {w : World} {q : Nat} {K : Option Addr → Nat → Nat → W} (h : St n X ip ic T base Wn sp wp sc wc w0 w) (hq : Blk w q 28 (flat [X])) (hk : ∀ es p c w', Puts es [X] 1 → (∀ u, Blk u q 28 (flat [X]) → EOk u es) → OwnN w' 40 3 p es.length c (sflat es) → (∀ b, bl p b → w.heap.size ≤ b) → St n X ip ic T base Wn sp wp sc wc w0 w' → Fr (fun _ => False) w w' → K p es.length c w') :
    CallT Tryd.prog 11 [.slice (some ⟨q, 0, none⟩) 1 1, .int .i64 1] (.s (.one .slice)) (fun p l c => Chk1 ((⟨n, 0, none⟩ : Addr).add 0) (.int .i64 X.1) <| Chk1 ((⟨n, 0, none⟩ : Addr).add 1) (.int .i64 X.2) <| Chk1 ((⟨n, 0, none⟩ : Addr).add 0) (.int .i64 X.1) <| Chk1 ((⟨n, 0, none⟩ : Addr).add 1) (.int .i64 X.2) <| K p l c) w :=
  sOne h.c hq fun es p c w' P1 k1 o1 hp1 C1 _ f => chk4 C1.hx (hk es p c w' P1 k1 o1 hp1 (h.fr0 f) f)
theorem pAll {w : World} {K : Option Addr → Nat → Nat → W} (h : St n X ip ic T base Wn sp wp sc wc w0 w) (hk : ∀ es p c w', Puts es T 30 → (∀ u, Edges u ip T → EOk u es) → OwnN w' 40 3 p es.length c (sflat es) → (∀ b, bl p b → w.heap.size ≤ b) → St n X ip ic T base Wn sp wp sc wc w0 w' → Fr (fun _ => False) w w' → K p es.length c w') :
    CallT Tryd.prog 11 [.slice ip T.length ic, .int .i64 30] (.s (.one .slice)) (fun p l c => Chk1 ((⟨n, 0, none⟩ : Addr).add 0) (.int .i64 X.1) <| Chk1 ((⟨n, 0, none⟩ : Addr).add 1) (.int .i64 X.2) <| Chk1 ((⟨n, 0, none⟩ : Addr).add 0) (.int .i64 X.1) <| Chk1 ((⟨n, 0, none⟩ : Addr).add 1) (.int .i64 X.2) <| K p l c) w :=
  sAll h.c fun es p c w' P1 k1 o1 hp1 C1 f => chk4 C1.hx (hk es p c w' P1 k1 o1 hp1 (h.fr0 f) f)
theorem pApp {w : World} {p q : Option Addr} {c d : Nat} {es fs : List Ent} {ty : TypeId} {cs : Array Bool} {K : Option Addr → Nat → Nat → W} (h : St n X ip ic T base Wn sp wp sc wc w0 w) (h1 : OwnN w 40 3 p es.length c (sflat es)) (h2 : OwnN w 40 3 q fs.length d (sflat fs)) (h0 : 0 < fs.length) (hb : es.length + fs.length < 10000) (hp : ∀ b, bl p b → base ≤ b)
    (hk : ∀ p' c' w', OwnN w' 40 3 p' (es ++ fs).length c' (sflat (es ++ fs)) → St n X ip ic T base Wn sp wp sc wc w0 w' → Keep w w' → Fr (fun b => bl p b) w w' → K p' (es ++ fs).length c' w') :
    NextT Tryd.prog (builtin .append #[33, 33] ty cs [.slice p es.length c, .slice q fs.length d].toArray) (.s (.one .slice)) (fun p l c => Chk1 ((⟨n, 0, none⟩ : Addr).add 0) (.int .i64 X.1) <| Chk1 ((⟨n, 0, none⟩ : Addr).add 1) (.int .i64 X.2) <| Chk1 ((⟨n, 0, none⟩ : Addr).add 0) (.int .i64 X.1) <| Chk1 ((⟨n, 0, none⟩ : Addr).add 1) (.int .i64 X.2) <| K p l c) w :=
  sApp h1 h2 h0 hb fun p' c' w' o' hp' f' kp => chk4 (h.c.keep kp).hx (hk p' c' w' o' ⟨h.c.keep kp, h.s.keep (by decide) kp, h.wn.keep (by decide) kp, Nat.le_trans h.sz f'.size, h.g.trans f' fun b hb => .inl (hp b hb)⟩ kp f')
theorem pTake {w : World} {p : Option Addr} {c : Nat} {es : List Ent} {K : Option Addr → Nat → Nat → W} (h : St n X ip ic T base Wn sp wp sc wc w0 w) (h1 : OwnN w 40 3 p es.length c (sflat es)) (hok : EOk w es) (h0 : 0 < es.length) (hb : es.length < 90000)
    (hk : ∀ p' c' w', StepsAt w' p' (es.length + 1) c' (es ++ [tk 1000]) → St n X ip ic T base Wn sp wp sc wc w0 w' → Fr (fun _ => False) w w' → K p' (es.length + 1) c' w') :
    CallT Tryd.prog 10 [.slice p es.length c, .int .i64 1000] (.s (.one .slice)) (fun p l c => Chk1 ((⟨n, 0, none⟩ : Addr).add 0) (.int .i64 X.1) <| Chk1 ((⟨n, 0, none⟩ : Addr).add 1) (.int .i64 X.2) <| Chk1 ((⟨n, 0, none⟩ : Addr).add 0) (.int .i64 X.1) <| Chk1 ((⟨n, 0, none⟩ : Addr).add 1) (.int .i64 X.2) <| K p l c) w :=
  sTake (N := 1000) h1 hok h0 hb fun p' c' w' S' hp' f' => chk4 (h.c.hx.fr f' id) (hk p' c' w' S' (h.fr0 f') f')

theorem J2_spec {w : World} {ap bp : Option Addr} {al ac bl' bc : Nat} {ea eb : List Ent} {first : Int} (hf : 0 ≤ first ∧ first < 256) (h : St n X ip ic T base Wn sp wp sc wc w0 w) (hWn : Wn = srt (T.map key ++ [X.1])) (hA : StepsAt w ap al ac (ea ++ [tk 1000])) (hB : StepsAt w bp bl' bc (eb ++ [tk 1000])) (PA : Puts ea ([X] ++ T) 30) (PB : Puts eb (T ++ [X]) 30)
    (hk : ∀ w', Fr (fun b => base ≤ b) w0 w' → k (.bool true) w') : F3_J2 k first ip T.length ic ⟨n, 0, none⟩ sp T.length sc true wp Wn.length wc ap al ac bp bl' bc w := by
  have hTb := h.c.hb
  have hla := PA.2.2
  have hlb := PB.2.2
  simp only [List.length_append, List.length_singleton] at hla hlb
  have hWl : Wn.length = T.length + 1 := by rw [hWn, srt_len, List.length_append, List.length_map]; rfl
  unfold F3_J2
  refine F12_call (F12_spec hA (by simp only [List.length_append, List.length_singleton]; omega) (Fine.once PA (by decide) (by simp) (by decide) (by decide)) fun os C p1 l1 c1 w1 hR o1 hp1 f1 => back_sb ?_)
  rw [Run.once PA (by simp only [List.length_append, List.length_singleton]; omega) hR, addAll_true, List.nil_append, List.map_append, show srt ([X].map key ++ T.map key) = Wn from by rw [hWn]; exact srt_eq List.perm_append_comm] at o1
  refine F12_call (F12_spec (StepsAt.fr (T := fun _ => False) hB f1) (by simp only [List.length_append, List.length_singleton]; omega) (Fine.once PB (by decide) (by simp) (by decide) (by decide)) fun os' C' p2 l2 c2 w2 hR' o2 hp2 f2 => back_sb ?_)
  rw [Run.once PB (by simp only [List.length_append, List.length_singleton]; omega) hR', addAll_true, List.nil_append, List.map_append, show srt (T.map key ++ [X].map key) = Wn from hWn.symm] at o2
  have e1 : l1 = Wn.length := by have := o1.1; rw [ints_length] at this; exact this.symm
  have e2 : l2 = Wn.length := by have := o2.1; rw [ints_length] at this; exact this.symm
  subst e1; subst e2
  have h2 := (h.fr0 f1).fr0 f2
  exact L1_spec (base := base) hf h2.c h2.s h2.wn (o1.fr f2 fun _ _ h => h) o2 (by omega) hWn h2.sz fun w' f' => hk w' (h2.g.trans f' fun b hb => .inl hb)
/-- The second script, its row of the further element made ahead. -/
theorem tailB {w : World} {q : Nat} {ap : Option Addr} {al ac : Nat} {ea : List Ent} {first : Int} (hf : 0 ≤ first ∧ first < 256) (h : St n X ip ic T base Wn sp wp sc wc w0 w) (hWn : Wn = srt (T.map key ++ [X.1])) (hq : Blk w q 28 (flat [X])) (hA : StepsAt w ap al ac (ea ++ [tk 1000])) (PA : Puts ea ([X] ++ T) 30)
    (hk : ∀ w', Fr (fun b => base ≤ b) w0 w' → k (.bool true) w') :
    (CallT Tryd.prog 11 [.slice ip T.length ic, .int .i64 30] (.s (.one .slice)) fun p1 l1 c1 =>
     Chk1 ((⟨n, 0, none⟩ : Addr).add 0) (.int .i64 X.1) <| Chk1 ((⟨n, 0, none⟩ : Addr).add 1) (.int .i64 X.2) <| Chk1 ((⟨n, 0, none⟩ : Addr).add 0) (.int .i64 X.1) <| Chk1 ((⟨n, 0, none⟩ : Addr).add 1) (.int .i64 X.2) <|
     CallT Tryd.prog 11 [.slice (some ⟨q, 0, none⟩) 1 1, .int .i64 1] (.s (.one .slice)) fun p2 l2 c2 =>
     Chk1 ((⟨n, 0, none⟩ : Addr).add 0) (.int .i64 X.1) <| Chk1 ((⟨n, 0, none⟩ : Addr).add 1) (.int .i64 X.2) <| Chk1 ((⟨n, 0, none⟩ : Addr).add 0) (.int .i64 X.1) <| Chk1 ((⟨n, 0, none⟩ : Addr).add 1) (.int .i64 X.2) <|
     NextT Tryd.prog (builtin .append #[33, 33] 33 [false, false].toArray [.slice p1 l1 c1, .slice p2 l2 c2].toArray) (.s (.one .slice)) fun p3 l3 c3 =>
     Chk1 ((⟨n, 0, none⟩ : Addr).add 0) (.int .i64 X.1) <| Chk1 ((⟨n, 0, none⟩ : Addr).add 1) (.int .i64 X.2) <| Chk1 ((⟨n, 0, none⟩ : Addr).add 0) (.int .i64 X.1) <| Chk1 ((⟨n, 0, none⟩ : Addr).add 1) (.int .i64 X.2) <|
     CallT Tryd.prog 10 [.slice p3 l3 c3, .int .i64 1000] (.s (.one .slice)) fun p4 l4 c4 =>
     Chk1 ((⟨n, 0, none⟩ : Addr).add 0) (.int .i64 X.1) <| Chk1 ((⟨n, 0, none⟩ : Addr).add 1) (.int .i64 X.2) <| Chk1 ((⟨n, 0, none⟩ : Addr).add 0) (.int .i64 X.1) <| Chk1 ((⟨n, 0, none⟩ : Addr).add 1) (.int .i64 X.2) <|
     F3_J2 k first ip T.length ic ⟨n, 0, none⟩ sp T.length sc true wp Wn.length wc ap al ac p4 l4 c4) w := by
  have hTb := h.c.hb
  have hT0 := h.c.h0
  refine pAll h fun es p1 c1 w1 P1 k1 o1 hp1 S1 f1 => ?_
  refine pOne S1 (hq.fr f1 id) fun fs p2 c2 w2 P2 k2 o2 hp2 S2 f2 => ?_
  have l1 := P1.2.2
  have l2 := P2.2.2
  simp only [List.length_singleton] at l2
  have z2 := puts_pos P2 (by simp)
  have hsz := h.sz
  refine pApp S2 (o1.fr f2 fun _ _ h => h) o2 z2 (by omega) (fun b hb => by have := hp1 b hb; omega) fun p3 c3 w3 o3 S3 kp3 f3 => ?_
  have f02 := f1.trans f2 fun _ h => h.elim
  have f03 : Fr (fun _ => False) w w3 := f02.trans f3 fun b hb => .inr (hp1 b hb)
  refine pTake S3 o3 (EOk.append (k1 w3 S3.c.hE) (k2 w3 (hq.fr f03 id))) (by simp only [List.length_append]; omega) (by simp only [List.length_append]; omega) fun p4 c4 w4 A4 S4 f4 => ?_
  exact J2_spec hf S4 hWn (StepsAt.fr (T := fun _ => False) hA (f03.trans f4 fun _ h => h.elim)) A4 PA (P1.append P2) hk
theorem J1_spec {w : World} {first : Int} (hf : 0 ≤ first ∧ first < 256) (h : St n X ip ic T base Wn sp wp sc wc w0 w) (hWn : Wn = srt (T.map key ++ [X.1]))
    (hk : ∀ w', Fr (fun b => base ≤ b) w0 w' → k (.bool true) w') : F3_J1 k first ip T.length ic ⟨n, 0, none⟩ sp T.length sc true wp Wn.length wc w := by
  have hTb := h.c.hb
  have hT0 := h.c.h0
  have hsz := h.sz
  unfold F3_J1
  refine drw_intro fun w1 f1 z1 => ?_
  have S1 := h.fr0 f1
  have cx : ∀ {w'}, St n X ip ic T base Wn sp wp sc wc w0 w' → w'.cell? ((⟨n, 0, none⟩ : Addr).add 0) = some (.int .i64 X.1) ∧ w'.cell? ((⟨n, 0, none⟩ : Addr).add 1) = some (.int .i64 X.2) := fun h => ⟨by show _ = _; rw [show ((⟨n, 0, none⟩ : Addr).add 0) = ⟨n, 0, none⟩ from rfl, h.c.hx.cell]; rfl, by rw [show ((⟨n, 0, none⟩ : Addr).add 1) = ⟨n, 1, none⟩ from rfl, h.c.hx.cell]; rfl⟩
  refine LoadT_int.2 ⟨_, (cx S1).1, LoadT_int.2 ⟨_, (cx S1).2, LoadT_int.2 ⟨_, (cx S1).1, LoadT_int.2 ⟨_, (cx S1).2, ?_⟩⟩⟩⟩
  -- what is short about both rows
  have PP : ∀ {es1 es2}, Puts es1 [X] 1 → Puts es2 T 30 → Puts (es1 ++ es2) ([X] ++ T) 30 := fun a b => a.append b
  have len : ∀ {es1 es2}, Puts es1 [X] 1 → Puts es2 T 30 → 0 < es2.length ∧ es1.length + es2.length < 10000 ∧ 0 < (es1 ++ es2).length ∧ (es1 ++ es2).length < 90000 := fun a b => by
    have h1 := a.2.2
    have h2 := b.2.2
    have h3 := puts_pos b hT0
    simp only [List.length_singleton] at h1
    simp only [List.length_append]
    omega
  refine ⟨?_, ?_⟩
  · refine pX S1 fun q w2 b2 S2 f2 => ?_
    refine ⟨?_, ?_⟩
    · refine pOne S2 b2 fun es1 p3 c3 w3 P3 k3 o3 hp3 S3 f3 => ?_
      have b3 := b2.fr f3 id
      have hz3 := S2.sz
      refine ⟨?_, ?_⟩
      · refine pAll S3 fun es2 p4 c4 w4 P4 k4 o4 hp4 S4 f4 => ?_
        have b4 := b3.fr f4 id
        obtain ⟨g1, g2, g3, g4⟩ := len P3 P4
        refine ⟨?_, ?_⟩
        · refine pApp S4 (o3.fr f4 fun _ _ h => h) o4 g1 g2 (fun b hb => by have := hp3 b hb; omega) fun p5 c5 w5 o5 S5 kp5 f5 => ?_
          have b5 := kp5 28 q _ (by decide) b4
          refine ⟨?_, ?_⟩
          · refine pTake S5 o5 (EOk.append (k3 w5 b5) (k4 w5 S5.c.hE)) g3 g4 fun p6 c6 w6 A6 S6 f6 => ?_
            refine ⟨?_, ?_⟩
            · refine pAll S6 fun es7 p7 c7 w7 P7 k7 o7 hp7 S7 f7 => ?_
              refine pX S7 fun q8 w8 b8 S8 f8 => ?_
              refine pOne S8 b8 fun es9 p9 c9 w9 P9 k9 o9 hp9 S9 f9 => ?_
              have l7 := P7.2.2
              have l9 := P9.2.2
              simp only [List.length_singleton] at l9
              have z9 := puts_pos P9 (by simp)
              have hz6 := S6.sz
              have f79 := f8.trans f9 fun _ h => h.elim
              refine pApp S9 (o7.fr f79 fun _ _ h => h) o9 z9 (by omega) (fun b hb => by have := hp7 b hb; omega) fun pa ca wa oa Sa kpa fa => ?_
              have ba := kpa 28 q8 _ (by decide) (b8.fr f9 id)
              have f6a : Fr (fun _ => False) w6 wa := (f7.trans f79 fun _ h => h.elim).trans fa fun b hb => .inr (hp7 b hb)
              refine pTake Sa oa (EOk.append (k7 wa Sa.c.hE) (k9 wa ba)) (by simp only [List.length_append]; omega) (by simp only [List.length_append]; omega) fun pb cb wb Ab Sb fb => ?_
              exact J2_spec hf Sb hWn (StepsAt.fr (T := fun _ => False) A6 (f6a.trans fb fun _ h => h.elim)) Ab (PP P3 P4) (P7.append P9) hk
            · exact pX S6 fun q7 w7 b7 S7 f7 => tailB hf S7 hWn b7 (StepsAt.fr (T := fun _ => False) A6 f7) (PP P3 P4) hk
          · refine pX S5 fun q6 w6 b6 S6 f6 => ?_
            refine pTake S6 (o5.fr f6 fun _ _ h => h) (EOk.append (k3 w6 (b5.fr f6 id)) (k4 w6 S6.c.hE)) g3 g4 fun p7 c7 w7 A7 S7 f7 => ?_
            exact tailB hf S7 hWn (b6.fr f7 id) A7 (PP P3 P4) hk
        · refine pX S4 fun q5 w5 b5 S5 f5 => ?_
          refine pApp S5 ((o3.fr f4 fun _ _ h => h).fr f5 fun _ _ h => h) (o4.fr f5 fun _ _ h => h) g1 g2 (fun b hb => by have := hp3 b hb; omega) fun p6 c6 w6 o6 S6 kp6 f6 => ?_
          refine pTake S6 o6 (EOk.append (k3 w6 (kp6 28 q _ (by decide) (b4.fr f5 id))) (k4 w6 S6.c.hE)) g3 g4 fun p7 c7 w7 A7 S7 f7 => ?_
          exact tailB hf S7 hWn ((kp6 28 q5 _ (by decide) b5).fr f7 id) A7 (PP P3 P4) hk
      · refine pX S3 fun q4 w4 b4 S4 f4 => ?_
        refine pAll S4 fun es2 p5 c5 w5 P5 k5 o5 hp5 S5 f5 => ?_
        obtain ⟨g1, g2, g3, g4⟩ := len P3 P5
        refine pApp S5 ((o3.fr f4 fun _ _ h => h).fr f5 fun _ _ h => h) o5 g1 g2 (fun b hb => by have := hp3 b hb; omega) fun p6 c6 w6 o6 S6 kp6 f6 => ?_
        refine pTake S6 o6 (EOk.append (k3 w6 (kp6 28 q _ (by decide) ((b3.fr f4 id).fr f5 id))) (k5 w6 S6.c.hE)) g3 g4 fun p7 c7 w7 A7 S7 f7 => ?_
        exact tailB hf S7 hWn ((kp6 28 q4 _ (by decide) (b4.fr f5 id)).fr f7 id) A7 (PP P3 P5) hk
    · refine pX S2 fun q3 w3 b3 S3 f3 => ?_
      refine pOne S3 (b2.fr f3 id) fun es1 p4 c4 w4 P4 k4 o4 hp4 S4 f4 => ?_
      have hz3 := S3.sz
      refine pAll S4 fun es2 p5 c5 w5 P5 k5 o5 hp5 S5 f5 => ?_
      obtain ⟨g1, g2, g3, g4⟩ := len P4 P5
      refine pApp S5 (o4.fr f5 fun _ _ h => h) o5 g1 g2 (fun b hb => by have := hp4 b hb; omega) fun p6 c6 w6 o6 S6 kp6 f6 => ?_
      refine pTake S6 o6 (EOk.append (k4 w6 (kp6 28 q _ (by decide) (((b2.fr f3 id).fr f4 id).fr f5 id))) (k5 w6 S6.c.hE)) g3 g4 fun p7 c7 w7 A7 S7 f7 => ?_
      exact tailB hf S7 hWn ((kp6 28 q3 _ (by decide) ((b3.fr f4 id).fr f5 id)).fr f7 id) A7 (PP P4 P5) hk
  · refine pX S1 fun q2 w2 b2 S2 f2 => ?_
    refine pX S2 fun q3 w3 b3 S3 f3 => ?_
    refine pOne S3 b3 fun es1 p4 c4 w4 P4 k4 o4 hp4 S4 f4 => ?_
    have hz3 := S3.sz
    refine pAll S4 fun es2 p5 c5 w5 P5 k5 o5 hp5 S5 f5 => ?_
    obtain ⟨g1, g2, g3, g4⟩ := len P4 P5
    refine pApp S5 (o4.fr f5 fun _ _ h => h) o5 g1 g2 (fun b hb => by have := hp4 b hb; omega) fun p6 c6 w6 o6 S6 kp6 f6 => ?_
    refine pTake S6 o6 (EOk.append (k4 w6 (kp6 28 q3 _ (by decide) ((b3.fr f4 id).fr f5 id))) (k5 w6 S6.c.hE)) g3 g4 fun p7 c7 w7 A7 S7 f7 => ?_
    exact tailB hf S7 hWn ((kp6 28 q2 _ (by decide) (((b2.fr f3 id).fr f4 id).fr f5 id)).fr f7 id) A7 (PP P4 P5) hk
end
theorem fill3a (x : Int) : ∀ i : TypeInfo, i.size = 1 → Instr.fill (fun j => some (j * i.size, i.size)) ((Array.range (1 * i.size)).map ((Value.int .i64 0).cells[· % (Value.int .i64 0).cells.size]!)) [(0, .int .i64 x)] = some (ints [x]).toArray := by
  intro i h
  rw [h]
  kernel_rfl
/-- FnPQMore. -/
theorem F3_spec {k : Value → W} {w : World} {p : Option Addr} {l c : Nat} {xs : List Int} {x first : Int} (hX : Shorts w p xs) (hl : l = xs.length) (hx : I16 xs) (hx1 : -32768 ≤ x ∧ x < 32768) (hf : 0 ≤ first ∧ first < 256)
    (hk : ∀ w', Fr (fun _ => False) w w' → k (.bool true) w') : F3 k p l c x first w := by
  have hw := hk w (Fr.refl _ _)
  subst hl
  unfold F3
  refine BIf_intro (fun _ => hw) fun _ => ?_
  refine F5_call (F5_spec (back_bool hw) fun h0 h30 => back_bool ?_)
  simp only [Bool.not_true, BIf_false]
  refine F6_call (F6_spec hX rfl (by omega) hx fun q3 c3 w1 o1 hq1 f1 => back_slice ?_)
  have htl := tag_length xs 0
  have htk := tag_key xs 0
  generalize tag 0 xs = T at *
  rw [← htl] at o1 h0 h30 ⊢
  rw [wrap_i64 (by omega) (by omega)]
  refine new_intro fun n w2 e2 b2 f2 z2 => ?_
  refine store_intro b2 (by simp) rfl fun w3 b3 f3 z3 => ?_
  refine store_intro b3 (by simp) rfl fun w4 b4 f4 z4 => ?_
  have f14 : Fr (fun _ => False) w1 w4 := (f2.trans f3 fun b e => .inr (by have : b = n := e; omega)).trans f4 fun b e => .inr (by have : b = n := e; omega)
  have hC4 : Cx w4 n (x, 99) q3 c3 T := ⟨b4, o1.fr f14 fun _ _ h => h, h0, h30⟩
  refine F7_call (F7_spec hC4.hE rfl hC4.hc h0 h30 fun q4 l4 c4 w5 o5 hq5 f5 => back_sb ?_)
  have hl4 : l4 = T.length := by have := o5.1; rw [ints_length, srt_len, List.length_map] at this; exact this.symm
  subst hl4
  refine drw_intro fun w6 f6 z6 => ?_
  have f46 := f5.trans f6 fun _ h => h.elim
  have C6 := hC4.fr0 f46
  have o6 := o5.fr f6 fun _ _ h => h
  refine load_int (i := 0) C6.hx rfl ?_
  have f06 : Fr (fun _ => False) w w6 := (f1.trans f14 fun _ h => h.elim).trans f46 fun _ h => h.elim
  have hsl : (srt (T.map key)).length = T.length := by rw [srt_len, List.length_map]
  have cc : ∀ {w'}, Fr (fun _ => False) w6 w' → w'.cell? ⟨n, 0, none⟩ = some (.int .i64 x) := fun f => by rw [(C6.hx.fr f id).cell]; rfl
  obtain ⟨i3, t1, t2, t3, t4⟩ := inf3
  -- what is wanted, and the rest
  have fin : ∀ {wq : Option Addr} {wcap : Nat} {w' : World}, Fr (fun _ => False) w6 w' → Own w' 3 wq (T.length + 1) wcap (ints (srt (srt (T.map key) ++ [x]))) → F3_J1 k first q3 T.length c3 ⟨n, 0, none⟩ q4 T.length c4 true wq (T.length + 1) wcap w' := by
    intro wq wcap w' f o
    have e : srt (srt (T.map key) ++ [x]) = srt (T.map key ++ [x]) := srt_eq ((srt_perm _).append_right _)
    rw [e] at o
    have el : T.length + 1 = (srt (T.map key ++ [x])).length := by rw [srt_len, List.length_append, List.length_map]; rfl
    rw [el] at o ⊢
    have hz := f.size
    refine J1_spec (base := w6.heap.size) (w0 := w') hf ⟨C6.fr0 f, o6.fr f fun _ _ h => h, o, hz, Fr.refl _ _⟩ rfl fun w'' f'' => ?_
    exact hk w'' ((f06.trans f fun _ h => h.elim).trans f'' fun b hb => .inr (by have := f06.size; omega))
  refine ⟨?_, ?_⟩
  · refine F9_call (F9_spec o6.ints hsl.symm (by omega) (by omega) fun qa ca wa oa hqa fa => back_slice ?_)
    refine ⟨cc fa, ?_⟩
    refine build_intro und29 t1 t2 (by omega) (by omega) (fill3a x i3 t3) fun wb fb bb zb => ?_
    have ob : Own wb 3 (some ⟨wa.heap.size, 0, none⟩) 1 1 (ints [x]) := Own.ofN (OwnN.made (n := 1) bb rfl (by decide))
    refine append_ints (oa.fr fb fun _ _ h => h) ob (by simp) (by simp; omega) fun qc cc' wc oc hqc fc => ?_
    have f6b := fa.trans fb fun _ h => h.elim
    have f6c : Fr (fun _ => False) w6 wc := f6b.trans fc fun b hb => .inr (hqa b hb)
    refine ⟨cc f6c, ?_⟩
    refine F8_call (F8_spec oc.ints (by simp; omega) (by simp) (by simp; omega) fun qd cd wd od fd => back_slice ?_)
    have f6d := f6c.trans fd fun _ h => h.elim
    exact ⟨cc f6d, fin f6d od⟩
  · refine build_intro und29 t1 t2 (by omega) (by omega) (fill3a x i3 t3) fun wa fa ba za => ?_
    have oa : Own wa 3 (some ⟨w6.heap.size, 0, none⟩) 1 1 (ints [x]) := Own.ofN (OwnN.made (n := 1) ba rfl (by decide))
    refine F9_call (F9_spec (o6.fr fa fun _ _ h => h).ints hsl.symm (by omega) (by omega) fun qb cb wb ob hqb fb => back_slice ?_)
    have f6b := fa.trans fb fun _ h => h.elim
    refine ⟨cc f6b, ?_⟩
    refine append_ints ob (oa.fr fb fun _ _ h => h) (by simp) (by simp; omega) fun qc cc' wc oc hqc fc => ?_
    have f6c : Fr (fun _ => False) w6 wc := f6b.trans fc fun b hb => .inr (by have := hqb b hb; have := fa.size; omega)
    refine ⟨cc f6c, ?_⟩
    refine F8_call (F8_spec oc.ints (by simp; omega) (by simp) (by simp; omega) fun qd cd wd od fd => back_slice ?_)
    have f6d := f6c.trans fd fun _ h => h.elim
    exact ⟨cc f6d, fin f6d od⟩
end Go.Proofs.YtbbidbjefdaagaaDoor.E
