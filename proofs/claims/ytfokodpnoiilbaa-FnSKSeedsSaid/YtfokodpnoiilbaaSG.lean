/-
  skOrder: the loop.
-/
import Derived.Test.YtfokodpnoiilbaaSF
namespace Go.Proofs.Ytfokodpnoiilbaa.E
open Go
set_option linter.unusedSimpArgs false
set_option linter.unusedVariables false
set_option maxRecDepth 100000
set_option maxHeartbeats 8000000

theorem Sl.frb {T : TypeId} {w w' : World} {p : Option Addr} {xs : List Itm} {S : Nat → Prop} (h : Sl (ItR T) w p xs) (f : Fr S w w') (hS : ∀ b, bl p b → ¬ S b) : Sl (ItR T) w' p xs := by
  rcases h with h | ⟨q, o, us, rfl, hB, hR⟩
  · exact .inl h
  · exact .inr ⟨q, o, us, rfl, hB.fr f (hS q ⟨_, rfl, rfl⟩), hR.fr f fun b u us _ _ h => by cases h⟩
def FrT (ts : List TypeId) (base : Nat) (w w' : World) : Prop := ∃ S, Fr S w w' ∧ Tys S w ts ∧ ∀ b, S b → base ≤ b
theorem FrT.of0 {ts : List TypeId} {base : Nat} {w w' : World} (f : Fr (fun _ => False) w w') : FrT ts base w w' := ⟨fun _ => False, f, fun _ _ _ h => h.elim, fun _ h => h.elim⟩
theorem FrT.mk {ts ts' : List TypeId} {base : Nat} {w w' : World} {S : Nat → Prop} (f : Fr S w w') (T : Tys S w ts') (h : ∀ u ∈ ts', u ∈ ts) (B : ∀ b, S b → base ≤ b) : FrT ts base w w' := ⟨S, f, fun b u us hb hu => h u (T b u us hb hu), B⟩
theorem FrT.trans {ts : List TypeId} {base : Nat} {w w' w'' : World} (h : FrT ts base w w') (h' : FrT ts base w' w'') : FrT ts base w w'' := by
  obtain ⟨S, f, T, B⟩ := h
  obtain ⟨S', f', T', B'⟩ := h'
  refine ⟨fun b => S b ∨ S' b, (f.mono fun b hb => .inl (.inl hb)).trans f' fun b hb => .inl (.inr hb), fun b u us hb hu => ?_, fun b hb => hb.elim (B b) (B' b)⟩
  by_cases hS : S b
  · exact T b u us hS hu
  · exact T' b u us (hb.resolve_left hS) (hu.fr f hS)
theorem FrT.fr {ts : List TypeId} {base : Nat} {w w' : World} (h : FrT ts base w w') (hb : w.heap.size ≤ base) : Fr (fun _ => False) w w' := by
  obtain ⟨S, f, T, B⟩ := h
  exact f.mono fun b hS => .inr (Nat.le_trans hb (B b hS))
theorem Ls.frT {base : Nat} {w w' : World} {p : Option Addr} {c : Nat} {xs : List Itm} (h : Ls w p c xs) (f : FrT [37, 39] base w w') : Ls w' p c xs := by
  obtain ⟨S, f, T, B⟩ := f
  exact ⟨h.1.fr f T (by decide), h.2⟩
/-- An item behind the last step's. -/
theorem StM.last {w w1 w2 : World} {base : Nat} {p p' : Option Addr} {l c c' q : Nat} {pre : List En} {e : En} {m0 : Nat} {x : Itm} (h : StM w base p l c pre (some e) m0) (f1 : Fr (fun b => bl e.pi b) w w1)
    (hq : p = some ⟨q, 0, none⟩) (hI : SlO ItK w1 p' (e.items.length + 1) c' (e.items ++ [x])) (hp : ∀ b, bl p' b → bl e.pi b ∨ w.heap.size ≤ b)
    (hs : ∀ us, Blk w1 q 39 us → Blk w2 q 39 (us.set (pre.length * 5 + 2) (.slice p' (e.items.length + 1) c'))) (f2 : Fr (fun b => b = q) w1 w2) :
    StM w2 base p l c pre (some ⟨e.op, e.most, e.items ++ [x], p', c'⟩) m0 := by
  obtain ⟨hl1, hl2⟩ := h.las e rfl
  have T1 : Tys (fun b => bl e.pi b) w [37] := hl1.ty
  have own1 : OwnN w1 39 5 p l c (flat (pre ++ [e])) := h.own.fr f1 fun b hb hS => by
    obtain ⟨us, hu⟩ := h.own.blk hb
    have := T1 _ _ _ hS hu
    simp at this
  have hlen : l = pre.length + 1 := by have := h.len; simpa using this
  subst hq
  have hB : ∃ rest, Blk w1 q 39 (flat (pre ++ [e]) ++ rest) ∧ (flat (pre ++ [e]) ++ rest).length = c * 5 ∧ l ≤ c ∧ c ≤ maxLen := by
    rcases own1.2 with ⟨h, _⟩ | ⟨q', rest, hq', hB, hc, hlc, hm⟩
    · cases h
    · cases hq'; exact ⟨rest, hB, hc, hlc, hm⟩
  obtain ⟨rest, hB, hc, hlc, hm⟩ := hB
  have hB2 := hs _ hB
  have hset : (flat (pre ++ [e]) ++ rest).set (pre.length * 5 + 2) (.slice p' (e.items.length + 1) c') = flat (pre ++ [⟨e.op, e.most, e.items ++ [x], p', c'⟩]) ++ rest := by
    rw [List.set_append_left _ _ (by rw [flat_len, List.length_append]; simp only [List.length_singleton]; omega)]
    congr 1
    rw [flat_app, flat_app, List.set_append_right _ _ (by rw [flat_len]; omega), flat_len, Nat.add_sub_cancel_left]
    congr 1
    show _ = [Value.int .i64 e.op, .int .i64 0, .slice p' (e.items ++ [x]).length c', .int .u64 0, .int .i64 e.most] ++ []
    rw [List.length_append]
    rfl
  rw [hset] at hB2
  have T2 : Tys (fun b => b = q) w1 [39] := Tys.one hB
  refine ⟨⟨?_, .inr ⟨q, rest, rfl, hB2, ?_, hlc, hm⟩⟩, ?_, fun e' he' => ⟨?_, (h.pr e' he').2⟩, ?_, h.bm, h.bp, fun e' he' => ?_⟩
  · rw [flat_len, h.len]; simp
  · have := congrArg List.length hset
    rw [List.length_set] at this
    exact this.symm.trans hc
  · rw [h.len]; simp
  · exact ((h.pr e' he').1.frb f1 fun b hb hS => by have := (h.pr e' he').2 b hb; have := hl2 b hS; omega).fr f2 T2 (by decide)
  · have := h.mw; have := f1.size; have := f2.size; omega
  · cases he'
    refine ⟨?_, fun b hb => ?_⟩
    · have := hI.fr f2 T2 (by decide)
      rw [List.length_append]; exact this
    · rcases hp b hb with h' | h'
      · exact hl2 b h'
      · have := h.mw; omega
def Good (es : List En) (t : Nat) : Prop := es.length ≤ t ∧ (∀ e ∈ es, Okay e.st ∧ e.items ≠ []) ∧ tot (es.map En.st) ≤ t
theorem tot_one (s : Stp) : tot [s] = s.items.length := by unfold tot; simp
theorem Good.snoc {es : List En} {t : Nat} (h : Good es t) {e : En} (h1 : Okay e.st) (h2 : e.items.length = 1) : Good (es ++ [e]) (t + 1) := by
  obtain ⟨a, b, c⟩ := h
  refine ⟨by rw [List.length_append]; simp; omega, fun e' he' => ?_, ?_⟩
  · rcases List.mem_append.1 he' with h | h
    · exact b e' h
    · have : e' = e := by simpa using h
      subst this
      exact ⟨h1, fun hn => by rw [hn] at h2; cases h2⟩
  · rw [List.map_append, tot_app]
    have : tot [e.st] = e.items.length := tot_one e.st
    show _ + tot [e.st] ≤ _
    omega
theorem Good.last {pre : List En} {e : En} {t : Nat} (h : Good (pre ++ [e]) t) {x : Itm} {p' : Option Addr} {c' : Nat} : Good (pre ++ [⟨e.op, e.most, e.items ++ [x], p', c'⟩]) (t + 1) := by
  obtain ⟨a, b, c⟩ := h
  refine ⟨by simp at a ⊢; omega, fun e' he' => ?_, ?_⟩
  · rcases List.mem_append.1 he' with h | h
    · exact b e' (List.mem_append_left _ h)
    · have : e' = ⟨e.op, e.most, e.items ++ [x], p', c'⟩ := by simpa using h
      subst this
      have := (b e (by simp)).1
      exact ⟨this, by simp⟩
  · rw [List.map_append, tot_app] at c ⊢
    have e1 : tot ([e].map En.st) = e.items.length := tot_one e.st
    have e2 : tot ([(⟨e.op, e.most, e.items ++ [x], p', c'⟩ : En)].map En.st) = (e.items ++ [x]).length := tot_one _
    rw [e1] at c
    rw [e2, List.length_append]
    simp
    omega
section
variable {w : World} {base : Nat} {p : Option Addr} {l c : Nat} {pre : List En} {la : Option En} {m0 : Nat}
theorem StM.cell {w : World} {base : Nat} {p : Option Addr} {l c : Nat} {pre : List En} {e : En} {m0 : Nat} (h : StM w base p l c pre (some e) m0) : ∃ q us, p = some ⟨q, 0, none⟩ ∧ Blk w q 39 us ∧ us[pre.length * 5]? = some (.int .i64 e.op) ∧ us[pre.length * 5 + 2]? = some (.slice e.pi e.items.length e.ci) ∧ pre.length * 5 + 2 < us.length := by
  have hlen : l = pre.length + 1 := by have := h.len; simpa using this
  obtain ⟨q, rest, hq, hB⟩ := h.own.get (by omega)
  have hB : Blk w q 39 (flat (pre ++ [e]) ++ rest) := hB
  have hfl : (flat (pre ++ [e])).length = (pre.length + 1) * 5 := by rw [flat_len, List.length_append]; rfl
  have he : (pre ++ [e])[pre.length]? = some e := by rw [List.getElem?_append_right (Nat.le_refl _), Nat.sub_self]; rfl
  refine ⟨q, _, hq, hB, ?_, ?_, ?_⟩
  · rw [List.getElem?_append_left (by omega)]
    exact flat_get _ pre.length 0 e he (by decide)
  · rw [List.getElem?_append_left (by omega)]
    exact flat_get _ pre.length 2 e he (by decide)
  · rw [List.length_append]; omega
theorem sub1 {n : Nat} (h : n < 4294967296) : subI .i64 ((n + 1 : Nat) : Int) 1 = ((n : Nat) : Int) := (wrap_i64 (by omega) (by omega)).trans (by omega)
theorem F8_J3_spec {k : Value → W} {again : Option Addr → Nat → Nat → Option Addr → Nat → Nat → Option Addr → Nat → Nat → Option Addr → Nat → Nat → Int → W} {mp kp np : Option Addr} {ml mc kl kc nl nc t n16 : Nat} {kk key val : Int} {tog : Bool}
    (h : StM w base p l c pre la m0) (hg : Good (pre ++ la.toList) t) (ht : t < 1000) (hkk : kk = 1 ∨ kk = 2 ∨ kk = 4 ∨ kk = 5 ∨ kk = 6) (b16 : Blk w n16 37 [.int .i64 key, .int .i64 val]) (h16 : ∀ e, la = some e → ∀ b, bl e.pi b → b ≠ n16)
    (htog : tog = true → ∃ e, la = some e)
    (hk : ∀ w' p' l' c' pre' la' m0', StM w' base p' l' c' pre' la' m0' → (la' = none → pre' = []) → Good (pre' ++ la'.toList) (t + 1) → FrT [37, 39] base w w' → again mp ml mc kp kl kc p' l' c' np nl nc ((t + 1 : Nat) : Int) w') :
    F8_J3 k again mp ml mc kp kl kc p l c np nl nc ((t : Nat) : Int) kk ⟨n16, 0, none⟩ tog w := by
  have hlt : l ≤ t := by have := hg.1; have := h.len; omega
  unfold F8_J3
  refine BIf_intro (fun hc => ?_) fun hc => ?_
  · obtain ⟨e, rfl⟩ := htog hc
    refine drw_intro fun w1 f1 z1 => ?_
    have h1 := h.fr0 f1
    have hlen : l = pre.length + 1 := by have := h.len; simpa using this
    obtain ⟨q, us, hq, hB, c0, c2, hus⟩ := h1.cell
    rw [hlen, sub1 (by omega), hq]
    simp only [NN_mk, Int.toNat_natCast, add_mk, Nat.zero_add]
    refine ⟨by omega, load_slice hB c2 ?_⟩
    have b161 := b16.fr f1 id
    refine load_int (i := 0) b161 rfl (load_int (i := 1) b161 rfl ?_)
    refine bld_it fun m w2 e2 b2 f2 z2 => ?_
    have h2 := h1.fr0 f2
    have hB2 := hB.fr f2 id
    have b162 := b161.fr f2 id
    refine chk hB2 c2 ?_
    obtain ⟨hl1, hl2⟩ := h2.las e rfl
    have hitems : e.items.length ≤ t := by
      have := hg.2.2
      rw [show pre ++ (some e).toList = pre ++ [e] from rfl, List.map_append, tot_app] at this
      have e1 : tot ([e].map En.st) = e.items.length := tot_one e.st
      omega
    refine app_it (x := (key, val)) hl1 b2 (by omega) fun p3 c3 w3 f3 o3 hp3 => ?_
    have b163 := b162.fr f3 fun hS => h16 e rfl _ hS rfl
    refine chk (i := 0) b163 rfl (chk (i := 1) b163 rfl ⟨by omega, ?_⟩)
    have hB3 := blk_ty hB2 f3 hl1.ty (by decide)
    refine store_intro (v := .slice p3 (e.items.length + 1) c3) hB3 hus rfl fun w4 b4 f4 z4 => ?_
    rw [add64 (by omega)]
    have h4 := h2.last (x := (key, val)) f3 hq o3 hp3 (fun us' hu' => by
      have : us' = us := (hu'.unique hB3).2
      rw [this]; exact b4) f4
    rw [hq, hlen] at h4
    refine hk w4 _ _ c pre _ m0 h4 (fun h => by cases h) hg.last ?_
    have hb1 : ∀ b, bl e.pi b → base ≤ b := fun b hb => by have := hl2 b hb; have := h.bm; omega
    have hbq : base ≤ q := h.bp q (by rw [hq]; exact ⟨_, rfl, rfl⟩)
    exact ((FrT.of0 (f1.trans f2 fun _ h => h.elim)).trans (FrT.mk f3 hl1.ty (by decide) hb1)).trans (FrT.mk f4 (Tys.one hB3) (by decide) fun b hb => by rw [show b = q from hb]; exact hbq)
  · simp only [add_mk, Nat.zero_add]
    refine load_int (i := 0) b16 rfl (load_int (i := 1) b16 rfl ?_)
    refine bld_it fun m w2 e2 b2 f2 z2 => ?_
    have h2 := h.fr0 f2
    rw [Req_iff]
    refine ⟨by decide, ?_⟩
    have hmost : addI .i64 1 (remI ((t : Nat) : Int) 20) = ((1 + t % 20 : Nat) : Int) := by
      rw [remI_eq (by omega)]
      exact (wrap_i64 (by omega) (by omega)).trans (by omega)
    rw [hmost]
    have hpast := h.past
    refine StM.snoc (e := ⟨kk, ((1 + t % 20 : Nat) : Int), [(key, val)], some ⟨m, 0, none⟩, 1⟩) h2 (m1 := m) (fun e he b hb => by have := (hpast e he).2 b hb; omega) (by omega) (by have := h.bm; have := h.mw; omega)
      (SlO.made (K := ItK) b2 rfl (by show 1 ≤ maxLen; decide) rfl (Rows.one ⟨rfl, rfl⟩)) (fun b ⟨a, ha, e⟩ => by cases ha; exact Nat.le_of_eq e) (by omega) fun p' c' w3 h3 f3 => ?_
    rw [add64 (by omega)]
    refine hk w3 p' _ c' _ _ m h3 (fun h => by cases h) (hg.snoc ⟨hkk, ?_, ?_⟩ rfl) (FrT.mk ((f2.mono fun _ h => h.elim).trans f3 fun b hb => .inl hb) (ts' := [39]) (fun b u us hb hu => by
      obtain ⟨us', hu'⟩ := h.own.blk hb
      rw [(hu.unique hu').1]; simp) (by decide) h.bp)
    · show (0 : Int) ≤ ((1 + t % 20 : Nat) : Int); omega
    · show ((1 + t % 20 : Nat) : Int) < 4000000000; omega
def U16s (w : World) (p : Option Addr) (xs : List Int) : Prop := ∀ i x, xs[i]? = some x → ∃ a, p = some a ∧ w.cell? (a.add i) = some (.int .u16 x) ∧ 0 ≤ x ∧ x < 65536
theorem U16s.fr0 {w w' : World} {p : Option Addr} {xs : List Int} (h : U16s w p xs) (f : Fr (fun _ => False) w w') : U16s w' p xs := fun i x hx => by
  obtain ⟨a, h1, h2, h3⟩ := h i x hx
  exact ⟨a, h1, by rw [f.cell (cell_lt h2) id]; exact h2, h3⟩
/-- J2, J1. -/
theorem F8_J2_spec {k : Value → W} {again : Option Addr → Nat → Nat → Option Addr → Nat → Nat → Option Addr → Nat → Nat → Option Addr → Nat → Nat → Int → W} {mp kp np : Option Addr} {ml mc kl kc nc t n16 : Nat} {kk key val : Int} {tog : Bool} {now : List Itm}
    (h : StM w base p l c pre la m0) (hg : Good (pre ++ la.toList) t) (ht : t < 1000) (hkk : kk = 1 ∨ kk = 2 ∨ kk = 4 ∨ kk = 5 ∨ kk = 6) (b16 : Blk w n16 37 [.int .i64 key, .int .i64 val]) (h16 : ∀ e, la = some e → ∀ b, bl e.pi b → b ≠ n16)
    (htog : tog = true → ∃ e, la = some e) (hN : Ls w np nc now) (so : SoI now) (hnl : now.length ≤ t) 
    (hk : ∀ w' p' l' c' pre' la' m0' np' nc' now', StM w' base p' l' c' pre' la' m0' → (la' = none → pre' = []) → Good (pre' ++ la'.toList) (t + 1) → FrT [37, 39] base w w' → Ls w' np' nc' now' → SoI now' → now'.length ≤ t + 1 →
      again mp ml mc kp kl kc p' l' c' np' now'.length nc' ((t + 1 : Nat) : Int) w') :
    F8_J2 k again mp ml mc kp kl kc p l c np now.length nc ((t : Nat) : Int) kk ⟨n16, 0, none⟩ tog w := by
  have fin : ∀ (w1 : World) (np1 : Option Addr) (nc1 : Nat) (now1 : List Itm), Fr (fun _ => False) w w1 → Ls w1 np1 nc1 now1 → SoI now1 → now1.length ≤ t + 1 → F8_J3 k again mp ml mc kp kl kc p l c np1 now1.length nc1 ((t : Nat) : Int) kk ⟨n16, 0, none⟩ tog w1 := fun w1 np1 nc1 now1 f1 s1 so1 hl1 => by
    refine F8_J3_spec (h.fr0 f1) hg ht hkk (b16.fr f1 id) h16 htog fun w2 p' l' c' pre' la' m0' h2 n2 g2 f2 => ?_
    exact hk w2 p' l' c' pre' la' m0' np1 nc1 now1 h2 n2 g2 ((FrT.of0 f1).trans f2) (s1.frT f2) so1 hl1
  unfold F8_J2
  refine BIf_intro (fun hc => ?_) fun hc => BIf_intro (fun hc => ?_) fun hc => ?_
  · refine load_int (i := 0) b16 rfl (load_int (i := 1) b16 rfl ?_)
    refine F19_call (F19_spec (x := (key, val)) hN (by omega) so fun w1 p1 c1 s1 f1 => back_slice ?_)
    have := len_put now (key, val)
    exact fin w1 p1 c1 _ f1 s1 (so.put _) (by omega)
  · refine load_int (i := 0) b16 rfl ?_
    refine F20_call (F20_spec (v := val) hN (by omega) so fun w1 p1 c1 s1 f1 => back_slice ?_)
    have := len_del now (key, val)
    exact fin w1 p1 c1 _ f1 s1 (so.del _) (by omega)
  · exact fin w np nc now (Fr.refl _ _) hN so (by omega)
theorem F8_J1_spec {k : Value → W} {again : Option Addr → Nat → Nat → Option Addr → Nat → Nat → Option Addr → Nat → Nat → Option Addr → Nat → Nat → Int → W} {mp kp np : Option Addr} {mc kl kc nc t n16 : Nat} {kk key val : Int} {now : List Itm} {ms : List Int}
    (h : StM w base p l c pre la m0) (hg : Good (pre ++ la.toList) t) (ht : t < 1000) (hkk : kk = 1 ∨ kk = 2 ∨ kk = 4 ∨ kk = 5 ∨ kk = 6) (b16 : Blk w n16 37 [.int .i64 key, .int .i64 val]) (h16 : ∀ e, la = some e → ∀ b, bl e.pi b → b ≠ n16)
    (hM : U16s w mp ms) (hmt : t < ms.length) (hN : Ls w np nc now) (so : SoI now) (hnl : now.length ≤ t) (hnone : la = none → pre = [])
    (hk : ∀ w' p' l' c' pre' la' m0' np' nc' now', StM w' base p' l' c' pre' la' m0' → (la' = none → pre' = []) → Good (pre' ++ la'.toList) (t + 1) → FrT [37, 39] base w w' → Ls w' np' nc' now' → SoI now' → now'.length ≤ t + 1 →
      again mp ms.length mc kp kl kc p' l' c' np' now'.length nc' ((t + 1 : Nat) : Int) w') :
    F8_J1 k again mp ms.length mc kp kl kc p l c np now.length nc ((t : Nat) : Int) kk ⟨n16, 0, none⟩ w := by
  obtain ⟨a, rfl, hc, _⟩ := hM t _ (List.getElem?_eq_getElem hmt)
  unfold F8_J1
  rw [NN_mk, Req_iff, Int.toNat_natCast]
  refine ⟨⟨by omega, by omega⟩, LoadT_int.2 ⟨_, hc, ?_⟩⟩
  rw [Req_iff, Req_iff]
  refine ⟨by decide, by decide, ?_⟩
  have no : F8_J2 k again (some a) ms.length mc kp kl kc p l c np now.length nc ((t : Nat) : Int) kk ⟨n16, 0, none⟩ false w := F8_J2_spec h hg ht hkk b16 h16 (fun h => by cases h) hN so hnl hk
  refine BIf_intro (fun _ => ?_) fun _ => no
  refine BIf_intro (fun hl => ?_) fun _ => no
  have hl := of_decide_eq_true hl
  cases la with
  | none =>
    have := h.len
    rw [hnone rfl] at this
    simp at this; omega
  | some e =>
    have hlen : l = pre.length + 1 := by have := h.len; simpa using this
    obtain ⟨q, us, hq, hB, c0, _, _⟩ := h.cell
    have hlt : l ≤ t := by have := hg.1; have := h.len; omega
    subst hlen
    rw [hq, NN_mk, sub1 (by omega), Req_iff, Int.toNat_natCast, add_mk, Nat.zero_add]
    refine ⟨⟨by omega, by omega⟩, load_int hB c0 ?_⟩
    rw [← hq]
    refine BIf_intro (fun _ => ?_) fun _ => no
    refine BIf_intro (fun _ => ?_) fun _ => no
    refine BIf_intro (fun _ => ?_) fun _ => no
    exact F8_J2_spec h hg ht hkk b16 h16 (fun _ => ⟨e, rfl⟩) hN so hnl hk
theorem Rows.flat {w : World} {es : List En} (h : ∀ e ∈ es, Sl ItK w e.pi e.items) : Rows StK w 0 (flat es) (es.map En.st) := fun i x hx => by
  rw [List.getElem?_map] at hx
  cases he : es[i]? with
  | none => rw [he] at hx; cases hx
  | some e =>
    rw [he] at hx; cases hx
    have hm := List.mem_of_getElem? he
    have g : ∀ j, j < 5 → (E.flat es)[0 + i * 5 + j]? = e.cl[j]? := fun j hj => by rw [Nat.zero_add]; exact flat_get es i j e he hj
    exact ⟨e.pi, e.ci, g 0 (by decide), g 1 (by decide), g 2 (by decide), g 3 (by decide), g 4 (by decide), h e hm⟩
/-- J4: the two steps at the end. -/
theorem F8_J4_spec {k : Value → W} {t : Nat} (h : StM w base p l c pre la m0) (hg : Good (pre ++ la.toList) t) (ht : t < 1000)
    (hk : ∀ w' p' c' ss, Sl StK w' p' ss → (∀ s ∈ ss, Okay s ∧ (s.op = 5 → s.items ≠ [])) → ss.length ≤ t + 2 → tot ss ≤ t + 1 → FrT [37, 39] base w w' → k (.slice p' ss.length c') w') : F8_J4 k p l c w := by
  obtain ⟨i, g1, g2, g3, g4⟩ := inf39
  have hlt : l ≤ t := by have := hg.1; have := h.len; omega
  unfold F8_J4
  refine bld_it fun m w1 e1 b1 f1 z1 => ?_
  refine build_intro und26 g1 g2 (by omega) (by omega) (fill39b _ _ _ _ _ _ _ _ _ _ i g3) fun w2 f2 b2 z2 => ?_
  have h2 := (h.fr0 f1).fr0 f2
  let ex : List En := [⟨5, 100, [(-1, 0)], some ⟨m, 0, none⟩, 1⟩, ⟨6, 0, [], none, 0⟩]
  refine append_own (P := Try.prog) und26 g1 g2 g3 (by decide) rfl g4 h2.own (news := flat ex) (m := 2) (by rw [flat_len]; rfl) (fun j u hu => ?_) (flat_one _) (by omega) fun p' c' w3 f3 o3 hp3 => ?_
  · rw [add_mk, Nat.zero_add, b2.cell]; exact hu
  · have hT : Tys (fun b => bl p b) w2 [39] := fun b u us hb hu => by
      obtain ⟨us', hu'⟩ := h2.own.blk hb
      rw [(hu.unique hu').1]; simp
    rw [← flat_app] at o3
    let es : List En := pre ++ la.toList ++ ex
    have hSl : ∀ e ∈ es, Sl ItK w3 e.pi e.items := fun e he => by
      rcases List.mem_append.1 he with he | he
      · exact (h2.past e he).1.fr f3 hT (by decide)
      · have : e = ⟨5, 100, [(-1, 0)], some ⟨m, 0, none⟩, 1⟩ ∨ e = ⟨6, 0, [], none, 0⟩ := by simpa [ex] using he
        rcases this with rfl | rfl
        · exact (Sl.of_blk (K := ItK) ((b1.fr f2 id).fr f3 fun hb => by have := hT _ _ _ hb (b1.fr f2 id); simp at this) (Rows.one ⟨rfl, rfl⟩))
        · exact Sl.nil _ _ _
    have hlen : (es.map En.st).length = l + 2 := by
      rw [List.length_map, List.length_append, ← h.len]; rfl
    rw [← hlen]
    refine hk w3 p' c' (es.map En.st) ?_ (fun s hs => ?_) ?_ ?_ ((FrT.of0 (f1.trans f2 fun _ h => h.elim)).trans (FrT.mk f3 hT (by decide) h.bp))
    · obtain ⟨q, rest, rfl, hB⟩ := o3.get (by omega)
      refine Sl.of_blk hB ((Rows.flat hSl).rest ?_ rest)
      rw [flat_len, List.length_map]; rfl
    · obtain ⟨e, he, rfl⟩ := List.mem_map.1 hs
      rcases List.mem_append.1 he with he | he
      · obtain ⟨a, b⟩ := hg.2.1 e he
        exact ⟨a, fun _ => b⟩
      · have : e = ⟨5, 100, [(-1, 0)], some ⟨m, 0, none⟩, 1⟩ ∨ e = ⟨6, 0, [], none, 0⟩ := by simpa [ex] using he
        rcases this with rfl | rfl
        · exact ⟨⟨.inr (.inr (.inr (.inl rfl))), by show (0 : Int) ≤ 100; decide, by show (100 : Int) < 4000000000; decide⟩, fun _ => by show [((-1 : Int), (0 : Int))] ≠ []; simp⟩
        · exact ⟨⟨.inr (.inr (.inr (.inr rfl))), by show (0 : Int) ≤ 0; decide, by show (0 : Int) < 4000000000; decide⟩, fun h => by have h : (6 : Int) = 5 := h; omega⟩
    · rw [hlen]; omega
    · rw [List.map_append, tot_app]
      have e1 : tot (ex.map En.st) = 1 := rfl
      have := hg.2.2
      omega
/-- skOrder. -/
theorem F8_spec {k : Value → W} {w : World} {mp : Option Addr} {mc kb : Nat} {ms ks : List Int} (hM : U16s w mp ms) (hK : Blk w kb 3 (ks.map (Value.int .i64))) (hk0 : 0 < ks.length) (hk1 : ks.length < 1000) (hks : ∀ x ∈ ks, x = 1 ∨ x = 2 ∨ x = 4 ∨ x = 5 ∨ x = 6)
    (hk : ∀ w' p' c' ss, Sl StK w' p' ss → (∀ s ∈ ss, Okay s ∧ (s.op = 5 → s.items ≠ [])) → ss.length ≤ 82 → tot ss ≤ 81 → Fr (fun _ => False) w w' → k (.slice p' ss.length c') w') : F8 k mp ms.length mc (some ⟨kb, 0, none⟩) ks.length ks.length w := by
  unfold F8
  refine F8_L1_rule (I := fun mp' ml mc' kp kl kc sp sl sc np nl nc i w' => mp' = mp ∧ ml = ms.length ∧ mc' = mc ∧ kp = some ⟨kb, 0, none⟩ ∧ kl = ks.length ∧ kc = ks.length ∧
      ∃ (t : Nat) (pre : List En) (la : Option En) (m0 : Nat) (now : List Itm), i = ((t : Nat) : Int) ∧ t ≤ 80 ∧ StM w' w.heap.size sp sl sc pre la m0 ∧ Good (pre ++ la.toList) t ∧ (la = none → pre = []) ∧ nl = now.length ∧ Ls w' np nc now ∧ SoI now ∧ now.length ≤ t ∧ Fr (fun _ => False) w w')
    (μ := fun mp' ml mc' kp kl kc sp sl sc np nl nc i w' => 80 - i.toNat) ?_
    ⟨rfl, rfl, rfl, rfl, rfl, rfl, 0, [], none, w.heap.size, [], rfl, by decide, ⟨OwnN.nil _ _ _, rfl, (fun e he => by cases he), Nat.le_refl _, Nat.le_refl _, (fun b ⟨_, h, _⟩ => by cases h), (fun e he => by cases he)⟩, ⟨Nat.zero_le _, (fun e he => by cases he), Nat.le_refl _⟩, fun _ => rfl, rfl, ⟨Sl.nil _ _ _, Nat.le_refl _⟩, List.Pairwise.nil, Nat.le_refl _, Fr.refl _ _⟩
  rintro mp' ml mc' _ kl kc sp sl sc np nl nc i w1 ⟨e1, e2, e3, rfl, e4, e5, t, pre, la, m0, now, rfl, ht, h1, hg, hn0, rfl, hN1, so1, hnl, f1⟩
  obtain rfl := e1.symm; obtain rfl := e3.symm
  unfold F8_L1
  rw [e2, e4, e5]
  have hM1 := hM.fr0 f1
  have hz1 := f1.size
  have aft : ∀ {w'}, FrT [37, 39] w.heap.size w1 w' → Fr (fun _ => False) w w' := fun ⟨S, f, T, B⟩ => f1.trans f fun b hb => .inr (B b hb)
  have j4 : F8_J4 k sp sl sc w1 := F8_J4_spec h1 hg (by omega) fun w' p' c' ss a b cc d ff => hk w' p' c' ss a b (by omega) (by omega) (aft ff)
  refine BIf_intro (fun hc1 => ?_) fun _ => j4
  refine BIf_intro (fun hc2 => ?_) fun _ => j4
  have hc1 := of_decide_eq_true hc1
  have hc2 := of_decide_eq_true hc2
  have hmt : t < ms.length := by omega
  obtain ⟨a, rfl, hc, hx0, hx1⟩ := hM1 t _ (List.getElem?_eq_getElem hmt)
  generalize ms[t] = x at *
  rw [NN_mk, Req_iff, Int.toNat_natCast]
  refine ⟨⟨by omega, by omega⟩, LoadT_int.2 ⟨_, hc, ?_⟩⟩
  rw [Req_iff, NN_mk]
  refine ⟨by omega, ?_⟩
  have hrem : remI (IntKind.wrap .i64 x) ((ks.length : Nat) : Int) = x % ((ks.length : Nat) : Int) := by
    rw [wrap_i64 (by omega) (by omega), remI_eq hx0]
  have hr0 := Int.emod_nonneg x (show ((ks.length : Nat) : Int) ≠ 0 by omega)
  have hr1 := Int.emod_lt_of_pos x (show 0 < ((ks.length : Nat) : Int) by omega)
  rw [hrem, Req_iff, add_mk, Nat.zero_add]
  have hidx : (x % ((ks.length : Nat) : Int)).toNat < ks.length := by omega
  generalize (x % ((ks.length : Nat) : Int)).toNat = idx at *
  refine ⟨⟨hr0, hr1⟩, load_int (n := ks[idx]) (hK.fr f1 id) (by rw [List.getElem?_map, List.getElem?_eq_getElem hidx]; rfl) ?_⟩
  have hkk := hks ks[idx] (List.getElem_mem hidx)
  generalize ks[idx] = kk at *
  rw [NN_mk, Req_iff]
  refine ⟨⟨by omega, by omega⟩, LoadT_int.2 ⟨_, hc, ?_⟩⟩
  rw [Req_iff, Req_iff, Bind_iff]
  refine ⟨by decide, by decide, ?_⟩
  generalize remI (IntKind.wrap .i64 (quoI .u16 x 16)) 60 = key
  refine new_intro fun n16 w2 en2 b2 f2 z2 => ?_
  refine store_intro (i := 0) b2 (by simp) rfl fun w3 b3 f3 z3 => ?_
  refine store_intro (i := 1) b3 (by simp) rfl fun w4 b4 f4 z4 => ?_
  rw [show (kk == 3) = false from beq_eq_false_iff_ne.2 (by omega), BIf_false]
  have f14 : Fr (fun _ => False) w1 w4 := f2.trans (f3.trans f4 fun _ h => .inl h) fun b h => .inr (by have h : b = n16 := h; omega)
  refine F8_J1_spec (h1.fr0 f14) hg (by omega) hkk b4 (fun e he b hb => ?_) (hM1.fr0 f14) hmt (hN1.fr0 f14) so1 hnl hn0 fun w5 p5 l5 c5 pre5 la5 m5 np5 nc5 now5 h5 hn5 g5 f5 s5 so5 hl5 => ?_
  · have := (h1.las e he).1.lt hb; omega
  · refine ⟨⟨by trivial, by trivial, by trivial, by trivial, by trivial, by trivial, t + 1, pre5, la5, m5, now5, rfl, by omega, h5, g5, hn5, rfl, s5, so5, hl5, aft ((FrT.of0 f14).trans f5)⟩, ?_⟩
    show 80 - ((t + 1 : Nat) : Int).toNat < 80 - ((t : Nat) : Int).toNat
    omega
end
end Go.Proofs.Ytfokodpnoiilbaa.E
