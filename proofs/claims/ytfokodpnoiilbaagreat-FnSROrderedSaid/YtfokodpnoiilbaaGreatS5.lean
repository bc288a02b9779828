/-
  Skip lists, by what they hold: insert, delete, iter, a new one.
-/
import Derived.Test.YtfokodpnoiilbaaGreatS4
namespace Go.Proofs.YtfokodpnoiilbaaGreat.E
open Go
set_option linter.unusedSimpArgs false
set_option linter.unusedVariables false
set_option maxRecDepth 100000
set_option maxHeartbeats 4000000

theorem back_pu {f : Option Addr → Int → W} {p : Option Addr} {n : Int} {w : World} (h : f p n w) : Back (.tup [(.one .ptr), (.one (.int .u64))]) f (.returned (.tuple #[.pointer p, .int .u64 n])) w := ⟨(p, n, ()), rfl, h⟩
/-! ## Sorted values -/
def loV (key : Value → Int) (k : Int) (vs : List Value) : List Value := vs.filter fun v => decide (key v < k)
def hiV (key : Value → Int) (k : Int) (vs : List Value) : List Value := vs.filter fun v => !decide (key v < k)
def gtV (key : Value → Int) (k : Int) (vs : List Value) : List Value := vs.filter fun v => decide (k < key v)
def putV (key : Value → Int) (v : Value) (vs : List Value) : List Value := loV key (key v) vs ++ v :: gtV key (key v) vs
def delV (key : Value → Int) (k : Int) (vs : List Value) : List Value := loV key k vs ++ gtV key k vs
def findV (key : Value → Int) (k : Int) (vs : List Value) : Option Value := vs.find? fun v => decide (key v = k)
theorem map_lo {key : Value → Int} {g : G} {k : Int} {ns : List Nat} : (lo (KY key g) k ns).map g.en = loV key k (ns.map g.en) := by
  unfold lo loV; rw [List.filter_map]; rfl
theorem map_hi {key : Value → Int} {g : G} {k : Int} {ns : List Nat} : (hi (KY key g) k ns).map g.en = hiV key k (ns.map g.en) := by
  unfold hi hiV; rw [List.filter_map]; rfl
def SoV (key : Value → Int) (vs : List Value) : Prop := vs.Pairwise fun a b => key a < key b
/-- The first one that is not less. -/
theorem hi_head {key : Value → Int} {k : Int} : ∀ {vs : List Value}, SoV key vs →
    (∃ z B, hiV key k vs = z :: B ∧ key z = k ∧ findV key k vs = some z ∧ gtV key k vs = B) ∨ ((∀ z ∈ vs, key z ≠ k) ∧ findV key k vs = none ∧ gtV key k vs = hiV key k vs)
  | [], _ => .inr ⟨fun z hz => by simp at hz, rfl, rfl⟩
  | a :: vs, s => by
    obtain ⟨h1, h2⟩ := List.pairwise_cons.1 s
    have ih := hi_head (k := k) h2
    by_cases ha : key a < k
    · have e1 : hiV key k (a :: vs) = hiV key k vs := by simp [hiV, ha]
      have e2 : findV key k (a :: vs) = findV key k vs := by simp only [findV]; rw [List.find?_cons_of_neg]; simp; omega
      have e3 : gtV key k (a :: vs) = gtV key k vs := by simp only [gtV]; rw [List.filter_cons_of_neg]; simp; omega
      rw [e1, e2, e3]
      rcases ih with h | ⟨h3, h4⟩
      · exact .inl h
      · refine .inr ⟨fun z hz => ?_, h4⟩
        rcases List.mem_cons.1 hz with e | e
        · rw [e]; omega
        · exact h3 z e
    · have eh : hiV key k (a :: vs) = a :: vs := List.filter_eq_self.2 fun x hx => by
        rcases List.mem_cons.1 hx with e | e
        · rw [e]; simp [ha]
        · have := h1 x e; simp; omega
      by_cases he : key a = k
      · refine .inl ⟨a, vs, eh, he, ?_, ?_⟩
        · simp only [findV]; rw [List.find?_cons_of_pos]; simpa using he
        · simp only [gtV]
          rw [List.filter_cons_of_neg (by simp; omega)]
          exact List.filter_eq_self.2 fun x hx => by have := h1 x hx; simp; omega
      · refine .inr ⟨fun z hz => ?_, ?_, ?_⟩
        · rcases List.mem_cons.1 hz with e | e
          · rw [e]; exact he
          · have := h1 z e; omega
        · simp only [findV]
          refine List.find?_eq_none.2 fun x hx => ?_
          rcases List.mem_cons.1 hx with e | e
          · rw [e]; simpa using he
          · have := h1 x e; simp; omega
        · rw [eh]
          exact List.filter_eq_self.2 fun x hx => by
            rcases List.mem_cons.1 hx with e | e
            · rw [e]; simp; omega
            · have := h1 x e; simp; omega

/-- A skip list that holds these, sorted by key; F: its blocks. -/
def SK (key : Value → Int) (w : World) (sl : Nat) (F : Nat → Prop) (vs : List Value) : Prop :=
  ∃ ns g M L h cb pb d c, SLm key w sl ns g M L h cb pb d c ∧ vs = ns.map g.en ∧ F = Sf sl cb pb (h :: ns) g

section
variable {key : Value → Int} {w w' : World} {sl : Nat} {F : Nat → Prop} {vs : List Value}
theorem SK.so (K : SK key w sl F vs) : SoV key vs := by
  obtain ⟨ns, g, M, L, h, cb, pb, d, c, s, rfl, _⟩ := K
  exact List.pairwise_map.2 s.so
theorem SK.lt (K : SK key w sl F vs) {b : Nat} (hb : F b) : b < w.heap.size := by
  obtain ⟨ns, g, M, L, h, cb, pb, d, c, s, rfl, rfl⟩ := K
  rcases hb with rfl | rfl | rfl | ⟨y, hy, h⟩
  · exact s.hd.lt
  · exact s.ca.lt
  · obtain ⟨_, _, hb⟩ := s.pw; exact hb.lt
  · rcases h with rfl | rfl | rfl
    · exact (s.ms.n _ hy).a.lt
    · exact (s.ms.n _ hy).f.lt
    · obtain ⟨_, _, hb⟩ := (s.ms.n _ hy).v; exact hb.lt
theorem SK.ty (K : SK key w sl F vs) : Tys F w [107, 117, 101, 29] := by
  obtain ⟨ns, g, M, L, h, cb, pb, d, c, s, rfl, rfl⟩ := K
  intro b u us hb hu
  rcases hb with rfl | rfl | rfl | ⟨y, hy, h⟩
  · rw [(hu.unique s.hd).1]; simp
  · rw [(hu.unique s.ca).1]; simp
  · obtain ⟨_, _, hb⟩ := s.pw; rw [(hu.unique hb).1]; simp
  · rcases h with rfl | rfl | rfl
    · rw [(hu.unique (s.ms.n _ hy).a).1]; simp
    · rw [(hu.unique (s.ms.n _ hy).f).1]; simp
    · obtain ⟨_, _, hb⟩ := (s.ms.n _ hy).v; rw [(hu.unique hb).1]; simp
theorem SK.fr (K : SK key w sl F vs) {S : Nat → Prop} (f : Fr S w w') (h : ∀ b, F b → ¬ S b) : SK key w' sl F vs := by
  obtain ⟨ns, g, M, L, h', cb, pb, d, c, s, rfl, rfl⟩ := K
  exact ⟨ns, g, M, L, h', cb, pb, d, c, s.fr f (h _ (.inl rfl)) (h _ (.inr (.inl rfl))) (h _ (.inr (.inr (.inl rfl)))) (fun x hx => ⟨h _ (.inr (.inr (.inr ⟨x, hx, .inl rfl⟩))), h _ (.inr (.inr (.inr ⟨x, hx, .inr (.inl rfl)⟩))), h _ (.inr (.inr (.inr ⟨x, hx, .inr (.inr rfl)⟩)))⟩), rfl, rfl⟩
theorem SK.fr0 (K : SK key w sl F vs) (f : Fr (fun _ => False) w w') : SK key w' sl F vs := K.fr f fun _ _ => id
theorem SK.fr_ty (K : SK key w sl F vs) {S : Nat → Prop} (f : Fr S w w') {ts : List TypeId} (hT : Tys S w ts) (ht : ∀ u ∈ ts, u ≠ 107 ∧ u ≠ 117 ∧ u ≠ 101 ∧ u ≠ 29) : SK key w' sl F vs := by
  obtain ⟨ns, g, M, L, h', cb, pb, d, c, s, rfl, rfl⟩ := K
  exact ⟨ns, g, M, L, h', cb, pb, d, c, s.fr_ty f hT ht, rfl, rfl⟩
theorem CmpOk.mono {S S' : Nat → Prop} {es es' : List Value} {q : Value} {k : Int} (h : CmpOk key S w es q k) (hS : ∀ b, S' b → S b) (he : ∀ e ∈ es', e ∈ es) : CmpOk key S' w es' q k :=
  fun w' f e he' => h w' (f.mono fun b hb => .inl (hS b hb)) e (he e he')
theorem F75_sk {k : Value → W} (K : SK key w sl F vs) (hk : k (.int .u64 (vs.length : Nat)) w) : F75 k (some ⟨sl, 0, none⟩) w := by
  obtain ⟨ns, g, M, L, h, cb, pb, d, c, s, rfl, _⟩ := K
  rw [List.length_map] at hk
  exact F75_spec s hk
/-- The search, by values. -/
theorem F71_sk {k : Value → W} {q : Value} {kq : Int} (K : SK key w sl F vs) (hlen : vs.length < 4294967296) (hC : CmpOk key F w vs q kq)
    (hk : ∀ w' (x : Option Nat) p, SK key w' sl F vs → Fr F w w' → (x = none ∧ hiV key kq vs = [] ∨ ∃ n B g v, x = some n ∧ hiV key kq vs = v :: B ∧ ND w' g n ∧ g.en n = v) →
      k (.tuple #[.pointer (oA x), .int .u64 p]) w') : F71 k (some ⟨sl, 0, none⟩) q none 0 0 none 0 0 w := by
  obtain ⟨ns, g, M, L, h, cb, pb, d, c, s, rfl, rfl⟩ := K
  by_cases h0 : ns = []
  · subst h0
    exact F71_none s (hk w none 1 ⟨_, _, _, _, _, _, _, _, _, s, rfl, rfl⟩ (Fr.refl _ _) (.inl ⟨rfl, rfl⟩))
  · refine F71_spec s h0 (by simpa using hlen) (hC.mono (fun b hb => hb.elim (fun h => .inr (.inl h)) fun h => .inr (.inr (.inl h))) fun e he => he) (fun x hx => List.mem_map_of_mem hx) (.inl rfl) fun w1 c1 p s1 f1 _ => ?_
    refine hk w1 _ p ⟨_, _, _, _, _, _, _, _, _, s1, rfl, rfl⟩ (f1.mono fun b hb => .inl (hb.elim (fun h => .inr (.inl h)) fun h => .inr (.inr (.inl h)))) ?_
    rw [← map_hi]
    cases hh : hi (KY key g) kq ns with
    | nil => exact .inl ⟨rfl, rfl⟩
    | cons z B =>
      have hz : z ∈ ns := (mem_hi.1 (show z ∈ hi (KY key g) kq ns by rw [hh]; exact List.mem_cons_self ..)).1
      exact .inr ⟨z, B.map g.en, g, g.en z, rfl, rfl, s1.ms.n z (List.mem_cons_of_mem _ hz), rfl⟩
end

section
variable {key : Value → Int} {w : World} {sl : Nat} {F : Nat → Prop} {vs : List Value} {v : Value}
/-- insert. -/
theorem F73_spec {k : Value → W} (K : SK key w sl F vs) (hlen : vs.length < 4294967296) (hC : CmpOk key F w vs v (key v)) (hv : oneC v = true)
    (hk : ∀ w' F', SK key w' sl F' (putV key v vs) → Fr F w w' → (∀ b, F' b → F b ∨ w.heap.size ≤ b) → k ((findV key (key v) vs).getD .nilIface) w') : F73 k (some ⟨sl, 0, none⟩) v w := by
  have hso := K.so
  obtain ⟨ns, g, M, L, h, cb, pb, d, c, s, rfl, rfl⟩ := K
  have hlen : ns.length < 4294967296 := by simpa using hlen
  unfold F73
  refine drw_intro fun w1 f1 z1 => ?_
  have s1 := s.fr0 f1
  have hC1 : CmpOk key (Sf sl cb pb (h :: ns) g) w1 (ns.map g.en) v (key v) := fun w' f => hC w' ((f1.mono fun _ h => h.elim).trans f fun _ h => .inl h)
  rw [NN_mk]
  refine load_slice (i := 4) s1.hd rfl ?_
  rw [NN_mk]
  refine load_slice (i := 5) s1.hd rfl ?_
  have main : ∀ w2 c2 (pos : Int), SLm key w2 sl ns g M L h cb pb d c2 → Fr (Sf sl cb pb (h :: ns) g) w w2 → (∀ i, i < L → c2 i = some (Lst h (lv g.ht i (lo (KY key g) (key v) ns)))) →
      (Drw <|
      NN (some ⟨sl, 0, none⟩) fun a9 =>
      LoadT .slice (a9.add 4) fun s10p s10l s10c =>
      NN (some ⟨sl, 0, none⟩) fun a11 =>
      LoadT .slice (a11.add 5) fun s12p s12l s12c =>
      CallT Go.Proofs.Tryz.prog 77 [.pointer (some ⟨sl, 0, none⟩), .pointer (oA (hi (KY key g) (key v) ns).head?), v, .int .u64 pos, .slice s10p s10l s10c, .slice s12p s12l s12c, .bool false] (.s (.one .any)) fun v13 => k v13) w2 := fun w2 c2 pos s2 f2 hc2 => by
    refine drw_intro fun w3 f3 z3 => ?_
    have s3 := s2.fr0 f3
    have f03 := f2.trans f3 fun _ h => h.elim
    rw [NN_mk]
    refine load_slice (i := 4) s3.hd rfl ?_
    rw [NN_mk]
    refine load_slice (i := 5) s3.hd rfl ?_
    refine F77_call ?_
    unfold F77
    rw [show (!false) = true from rfl, BIf_true]
    have ins : (∀ x ∈ ns, KY key g x ≠ key v) → ∀ w4, Fr (fun _ => False) w3 w4 → F77_J1 (fun v13 => Back (.s (.one .any)) k (.returned v13)) (some ⟨sl, 0, none⟩) (oA (hi (KY key g) (key v) ns).head?) v pos (some ⟨cb, 0, none⟩) M M (some ⟨pb, 0, none⟩) M M false w4 := fun hkn w4 f4 => by
      have hfind : findV key (key v) (ns.map g.en) = none ∧ gtV key (key v) (ns.map g.en) = hiV key (key v) (ns.map g.en) := by
        rcases hi_head (k := key v) hso with ⟨z, B, e1, e2, _⟩ | ⟨_, h⟩
        · have : z ∈ ns.map g.en := (List.mem_filter.1 (show z ∈ hiV key (key v) (ns.map g.en) by rw [e1]; exact List.mem_cons_self ..)).1
          obtain ⟨x, hx, rfl⟩ := List.mem_map.1 this
          exact absurd e2 (hkn x hx)
        · exact h
      have s4 := s3.fr0 f4
      have f04 := f03.trans f4 fun _ h => h.elim
      unfold F77_J1
      rw [BIf_false, NN_mk]
      refine load_int (i := 3) s4.hd rfl ?_
      refine store_intro (i := 3) s4.hd (by simp) rfl fun w5 b5 f5 z5 => ?_
      rw [show addI .u64 ((ns.length : Nat) : Int) 1 = ((ns.length + 1 : Nat) : Int) from (wrap_u64 (by omega) (by omega)).trans (by omega)] at b5
      have H5 := s4.hc.setH (num' := ns.length + 1) (L' := L) (d' := d) b5 f5
      have m5 := s4.ms.setH s4.hc f5
      have f05 := f04.trans f5 (fun b hb => .inl (.inl hb))
      refine F79_call (F79_spec H5 m5 s.M8 s.M64 fun w6 d6 l H6 m6 f6 l1 l2 => back_int ?_)
      have f06 := f05.trans f6 (fun b hb => .inl (.inl hb))
      rw [NN_mk]
      refine load_int (i := 1) H6.hd rfl ?_
      have fin : ∀ w7 c7 L', HC w7 sl (ns.length + 1) M L' h cb pb d6 c7 → MS w7 (h :: ns) g → Fr (Sf sl cb pb (h :: ns) g) w w7 → l ≤ L' → L ≤ L' → L' < M → (∀ i, i < L' → c7 i = some (Lst h (lv g.ht i (lo (KY key g) (key v) ns)))) →
          F77_J2 (fun v13 => Back (.s (.one .any)) k (.returned v13)) (some ⟨sl, 0, none⟩) v pos (some ⟨cb, 0, none⟩) M M (some ⟨pb, 0, none⟩) M M ((l : Nat) : Int) w7 := fun w7 c7 L' H7 m7 f7 q1 q2 q3 q4 => by
        refine F77_J2_spec (key := key) (kq := key v) H7 m7 s.nd s.ne l1 q1 q3 s.M8 s.M64 s.hh (fun x hx => ⟨(s.ht x hx).1, by have := (s.ht x hx).2; omega⟩) q4 s.pa s.so rfl hv hkn fun w8 ns8 g8 d8 c8 s8 e8 f8 u8 => ?_
        refine back_any ?_
        have := hk w8 _ ⟨ns8, g8, M, L', h, cb, pb, d8, c8, s8, by
          rw [e8]; unfold putV; rw [hfind.2, map_lo, map_hi], rfl⟩ (f7.trans f8 fun _ h => .inl h) (fun b hb => (u8 b hb).imp id fun h => Nat.le_trans f7.size h)
        rw [hfind.1] at this
        exact this
      refine BIf_intro (fun hc => ?_) fun hc => ?_
      · have hc := of_decide_eq_true hc
        rw [NN_mk]
        refine load_int (i := 1) H6.hd rfl ?_
        refine F77_L1_spec (l := l) (i := L) H6 m6 s.ne l2 s.M64 (by omega) fun w7 c7 H7 m7 f7 e7 e7' => ?_
        refine fin w7 c7 l H7 m7 (f06.trans f7 fun b hb => .inl (hb.elim .inl fun h => .inr (.inl h))) (Nat.le_refl _) (by omega) l2 fun i hi => ?_
        by_cases hiL : i < L
        · rw [e7 i hiL]; exact hc2 i hiL
        · rw [e7' i (by omega) hi]
          rw [show lv g.ht i (lo (KY key g) (key v) ns) = [] from List.filter_eq_nil_iff.2 fun x hx => by
            have := (s.ht x (mem_lo.1 hx).1).2
            simp; omega]
          rfl
      · have hc := of_decide_eq_false hc
        exact fin w6 c2 L H6 m6 f06 (by omega) (Nat.le_refl _) s.L1 hc2
    cases hh : (hi (KY key g) (key v) ns).head? with
    | none =>
      simp only [oA_none, Option.isNone_none, Bool.not_true, BIf_false]
      have hnil : hi (KY key g) (key v) ns = [] := List.head?_eq_none_iff.1 hh
      have := ins (fun x hx e => by
        have : x ∈ hi (KY key g) (key v) ns := mem_hi.2 ⟨hx, by rw [e]; exact Int.le_refl _⟩
        rw [hnil] at this; cases this) w3 (Fr.refl _ _)
      rw [hh] at this
      exact this
    | some z =>
      simp only [oA_some, Option.isNone_some, Bool.not_false, BIf_true]
      obtain ⟨B, hB⟩ : ∃ B, hi (KY key g) (key v) ns = z :: B := by
        cases hl : hi (KY key g) (key v) ns with
        | nil => rw [hl] at hh; cases hh
        | cons a B => rw [hl] at hh; cases hh; exact ⟨B, rfl⟩
      have hz : z ∈ ns := (mem_hi.1 (show z ∈ hi (KY key g) (key v) ns by rw [hB]; exact List.mem_cons_self ..)).1
      refine F72_call (F72_spec (s3.ms.n z (List.mem_cons_of_mem _ hz)) hC f03 (List.mem_map_of_mem hz) fun w4 f4 => back_int ?_)
      rw [ord_eq]
      by_cases he : key (g.en z) = key v
      · rw [decide_eq_true he]
        unfold F77_J1
        rw [BIf_true, NN_mk]
        have s4 := s3.fr0 f4
        have N4 := s4.ms.n z (List.mem_cons_of_mem _ hz)
        refine load_any (i := 2) N4.a rfl ?_
        rw [NN_mk]
        refine ⟨hv, ?_⟩
        refine store_intro (i := 2) N4.a (by simp) hv fun w5 b5 f5 z5 => back_any ?_
        have m5 := s4.ms.setE (List.mem_cons_of_mem _ hz) b5 f5
        have H5 := s4.hc.setE s4.ms (List.mem_cons_of_mem _ hz) f5
        have hky : ∀ y ∈ ns, key (up g.en z v y) = key (g.en y) := fun y hy => by
          by_cases e : y = z
          · rw [e, up_same]; exact he.symm
          · rw [up_ne _ _ e]
        have hfind : findV key (key v) (ns.map g.en) = some (g.en z) ∧ gtV key (key v) (ns.map g.en) = B.map g.en := by
          rcases hi_head (k := key v) hso with ⟨z', B', e1, e2, e3, e4⟩ | ⟨h3, _⟩
          · rw [← map_hi, hB, List.map_cons] at e1
            injection e1 with e1 e1'
            rw [e3, e4, ← e1, ← e1']; exact ⟨rfl, rfl⟩
          · exact absurd he (h3 _ (List.mem_map_of_mem hz))
        have hns : ns = lo (KY key g) (key v) ns ++ z :: B := by rw [← hB]; exact lo_hi s.so
        have hnd := (List.nodup_cons.1 s.nd).2
        have := hk w5 _ ⟨ns, { g with en := up g.en z v }, M, L, h, cb, pb, d, c2, ⟨H5.hd, H5.ca, H5.pw, m5, s.nd, s.ne, s.hh, s.M8, s.M64, s.L1, s.ht, s.pa,
            List.Pairwise.imp_of_mem (fun {a b} ha hb hab => by show key (up g.en z v a) < key (up g.en z v b); rw [hky a ha, hky b hb]; exact hab) s.so, s2.c0⟩, by
              unfold putV
              rw [hfind.2, ← map_lo]
              show _ = ns.map (up g.en z v)
              have hzA : ∀ y ∈ lo (KY key g) (key v) ns, y ≠ z := fun y hy e => by
                have := (mem_lo.1 hy).2
                rw [e] at this
                have he : KY key g z = key v := he
                omega
              have hzB : ∀ y ∈ B, y ≠ z := fun y hy e => by
                rw [hns] at hnd
                have := (List.nodup_cons.1 (List.nodup_append.1 hnd).2.1).1
                exact this (e ▸ hy)
              conv => rhs; rw [hns]
              rw [List.map_append, List.map_cons, up_same]
              rw [List.map_congr_left (f := up g.en z v) (g := g.en) fun y hy => up_ne _ _ (hzA y hy), List.map_congr_left (f := up g.en z v) (g := g.en) fun y hy => up_ne _ _ (hzB y hy)], rfl⟩
          ((f03.trans f4 fun _ h => h.elim).trans f5 fun b hb => .inl (.inr (.inr (.inr ⟨z, List.mem_cons_of_mem _ hz, .inl hb⟩)))) (fun b hb => .inl hb)
        rw [hfind.1] at this
        exact this
      · rw [decide_eq_false he]
        have := ins (fun x hx e => by
          rcases hi_head (k := key v) hso with ⟨z', B', e1, e2, e3, e4⟩ | ⟨h3, _⟩
          · rw [← map_hi, hB, List.map_cons] at e1
            injection e1 with e1 e1'
            rw [e1] at he; exact he e2
          · exact h3 _ (List.mem_map_of_mem hx) e) w4 f4
        rw [hh] at this
        exact this
  by_cases h0 : ns = []
  · subst h0
    refine F71_call (F71_none s1 (back_pu ?_))
    exact main w1 c 1 s1 (f1.mono fun _ h => h.elim) (s1.c0 rfl)
  · refine F71_call (F71_spec s1 h0 hlen (hC1.mono (fun b hb => hb.elim (fun h => .inr (.inl h)) fun h => .inr (.inr (.inl h))) fun e he => he) (fun x hx => List.mem_map_of_mem hx) (.inr ⟨rfl, rfl, rfl, rfl⟩) fun w2 c2 p s2 f2 hc2 => back_pu ?_)
    exact main w2 c2 p s2 ((f1.mono fun _ h => h.elim).trans f2 fun b hb => .inl (hb.elim (fun h => .inr (.inl h)) fun h => .inr (.inr (.inl h)))) fun i hi => hc2 (by simp) i (by omega)
end
end Go.Proofs.YtfokodpnoiilbaaGreat.E
