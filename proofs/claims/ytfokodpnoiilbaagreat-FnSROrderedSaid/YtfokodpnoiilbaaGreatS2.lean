/-
  Skip lists: the search.
-/
import Derived.Test.YtfokodpnoiilbaaGreatS1
namespace Go.Proofs.YtfokodpnoiilbaaGreat.E
open Go
set_option linter.unusedSimpArgs false
set_option linter.unusedVariables false
set_option maxRecDepth 100000
set_option maxHeartbeats 4000000

theorem idx_Lst : ∀ {h : Nat} {a b : List Nat}, (h :: (a ++ b)).Nodup → (h :: (a ++ b)).idxOf (Lst h a) = a.length
  | h, [], b, _ => by simp [Lst]
  | h, y :: a, b, hn => by
    have hne : h ≠ Lst y a := fun e => (List.nodup_cons.1 hn).1 (by
      have := Lst_mem y a
      rw [← e] at this
      rcases List.mem_cons.1 this with h | h
      · rw [h]; exact List.mem_cons_self ..
      · exact List.mem_cons_of_mem _ (List.mem_append_left _ h))
    have ih := idx_Lst (h := y) (a := a) (b := b) (List.nodup_cons.1 hn).2
    show (h :: (y :: (a ++ b))).idxOf (Lst y a) = a.length + 1
    rw [List.idxOf_cons, show (h == Lst y a) = false from beq_eq_false_iff_ne.2 hne, cond_false, ih]

section
variable {key : Value → Int} {w : World} {sl : Nat} {ns : List Nat} {g : G} {M L h cb pb : Nat} {d : Int} {c : Nat → Option Nat}
theorem SLm.fr (s : SLm key w sl ns g M L h cb pb d c) {S : Nat → Prop} {w' : World} (f : Fr S w w') (h1 : ¬ S sl) (h2 : ¬ S cb) (h3 : ¬ S pb) (h4 : ∀ x ∈ h :: ns, ¬ S x ∧ ¬ S (g.fb x) ∧ ¬ S (g.wb x)) : SLm key w' sl ns g M L h cb pb d c :=
  ⟨s.hd.fr f h1, s.ca.fr f h2, s.pw.fr f h3, s.ms.fr f h4, s.nd, s.ne, s.hh, s.M8, s.M64, s.L1, s.ht, s.pa, s.so, s.c0⟩
theorem SLm.fr0 (s : SLm key w sl ns g M L h cb pb d c) {w' : World} (f : Fr (fun _ => False) w w') : SLm key w' sl ns g M L h cb pb d c :=
  s.fr f id id id fun _ _ => ⟨id, id, id⟩
theorem SLm.fr_ty (s : SLm key w sl ns g M L h cb pb d c) {S : Nat → Prop} {w' : World} (f : Fr S w w') {ts : List TypeId} (hT : Tys S w ts) (ht : ∀ u ∈ ts, u ≠ 107 ∧ u ≠ 117 ∧ u ≠ 101 ∧ u ≠ 29) : SLm key w' sl ns g M L h cb pb d c :=
  ⟨s.hd.fr f (fun hs => (ht _ (hT _ _ _ hs s.hd)).1 rfl), s.ca.fr f (fun hs => (ht _ (hT _ _ _ hs s.ca)).2.2.1 rfl), s.pw.fr f (fun hs => by obtain ⟨ws, _, hb⟩ := s.pw; exact (ht _ (hT _ _ _ hs hb)).2.2.2 rfl),
    s.ms.fr_ty f hT (fun u hu => (ht u hu).2), s.nd, s.ne, s.hh, s.M8, s.M64, s.L1, s.ht, s.pa, s.so, s.c0⟩
/-- The chain of a level: the lesser ones, and the others. -/
theorem SLm.pa' (s : SLm key w sl ns g M L h cb pb d c) (kq : Int) {i : Nat} (hi' : i < M) :
    Path (fun x => g.f x i) h (lv g.ht i (lo (fun x => key (g.en x)) kq ns) ++ lv g.ht i (hi (fun x => key (g.en x)) kq ns)) := by
  have := s.pa i hi'
  rw [lo_hi (k := kq) s.so] at this
  rwa [lv_app] at this
theorem SLm.nd' (s : SLm key w sl ns g M L h cb pb d c) (kq : Int) (i : Nat) :
    (h :: (lv g.ht i (lo (fun x => key (g.en x)) kq ns) ++ lv g.ht i (hi (fun x => key (g.en x)) kq ns))).Nodup := by
  rw [← lv_app, ← lo_hi s.so]
  obtain ⟨h1, h2⟩ := List.nodup_cons.1 s.nd
  exact List.nodup_cons.2 ⟨fun hm => h1 (mem_lv.1 hm).1, h2.filter _⟩
theorem SLm.htM (s : SLm key w sl ns g M L h cb pb d c) {x : Nat} (hx : x ∈ ns) : g.ht x < M := by
  have := s.ht x hx; have := s.L1; omega
theorem F75_spec {k : Value → W} (s : SLm key w sl ns g M L h cb pb d c) (hk : k (.int .u64 (ns.length : Nat)) w) : F75 k (some ⟨sl, 0, none⟩) w := by
  unfold F75
  rw [NN_mk]
  exact load_int (i := 3) s.hd rfl hk
end

abbrev KY (key : Value → Int) (g : G) : Nat → Int := fun x => key (g.en x)

section
variable {key : Value → Int} {w0 w : World} {S0 : Nat → Prop} {sl : Nat} {ns : List Nat} {g : G} {M L h cb pb : Nat} {d : Int} {c : Nat → Option Nat} {q : Value} {kq : Int} {es : List Value}
theorem ord_lt {a b : Int} : decide (ordI a b < 0) = decide (a < b) := by
  unfold ordI
  split
  · rename_i h; simp [h]
  · rename_i h; split <;> simp [h]
theorem ord_eq {a b : Int} : (ordI a b == 0) = decide (a = b) := by
  unfold ordI
  split
  · rename_i h; have : a ≠ b := by omega
    simp [this]
  · rename_i h; split
    · rename_i h'; have : a ≠ b := by omega
      simp [this]
    · have : a = b := by omega
      simp [this]
theorem F71_L2_spec {k : Value → W} {again16 : Option Addr → Value → Option Addr → Nat → Nat → Option Addr → Nat → Nat → Int → Option Addr → Option Addr → Int → W} {up : Option Addr} {ul uc : Nat} {wp : Option Addr} {wl wc : Nat} {pos i : Int} {o : Nat} {a : Option Nat} {done rest : List Nat}
    (s : SLm key w sl ns g M L h cb pb d c) (hC : CmpOk key S0 w0 es q kq) (hf : Fr S0 w0 w) (hes : ∀ x ∈ ns, g.en x ∈ es) (ho : o ≤ L)
    (e : lv g.ht o (lo (KY key g) kq ns) = done ++ rest) (ha : ∀ x, a = some x → x ∈ h :: done)
    (hk : ∀ w' pos', Fr (fun _ => False) w w' → F71_J1 k again16 (some ⟨sl, 0, none⟩) q up ul uc wp wl wc pos' ((o : Nat) : Int) (oA (some (Lst h (lv g.ht o (lo (KY key g) kq ns))))) i w') :
    Loop [.ptr, .any, .slice, .slice, (.int .u64), (.int .u8), .ptr, .ptr, (.int .u8)] (F71_L2 k again16) (some ⟨sl, 0, none⟩) q up ul uc wp wl wc pos ((o : Nat) : Int) (oA a) (oA (some (Lst h done))) i w := by
  refine F71_L2_rule (I := fun sl' q' p l c p2 l2 c2 pos' o' a' n' i' w' => sl' = some ⟨sl, 0, none⟩ ∧ q' = q ∧ p = up ∧ l = ul ∧ c = uc ∧ p2 = wp ∧ l2 = wl ∧ c2 = wc ∧ o' = ((o : Nat) : Int) ∧ i' = i ∧ Fr (fun _ => False) w w' ∧
      ∃ done rest a, lv g.ht o (lo (KY key g) kq ns) = done ++ rest ∧ n' = oA (some (Lst h done)) ∧ a' = oA a ∧ (∀ x, a = some x → x ∈ h :: done))
    (μ := fun sl' q' p l c p2 l2 c2 pos' o' a' n' i' w' => (lv g.ht o (lo (KY key g) kq ns)).length - (h :: lv g.ht o (lo (KY key g) kq ns)).idxOf (n'.getD ⟨0, 0, none⟩).block) ?_
    ⟨rfl, rfl, rfl, rfl, rfl, rfl, rfl, rfl, rfl, rfl, Fr.refl _ _, done, rest, a, e, rfl, rfl, ha⟩
  rintro _ _ _ _ _ _ _ _ pos' _ _ _ _ w' ⟨rfl, rfl, rfl, rfl, rfl, rfl, rfl, rfl, rfl, rfl, f, done, rest, a, e, rfl, rfl, ha⟩
  have s := s.fr0 f
  have hf := hf.trans f fun _ h => h.elim
  have hM := s.L1
  have hp := s.pa' kq (show o < M by omega)
  have hnd := s.nd' kq o
  have hp2 := hp
  rw [e, List.append_assoc] at hp2
  have hnx := hp2.at
  have hnx : g.f (Lst h done) o = (rest ++ lv g.ht o (hi (fun x => key (g.en x)) kq ns)).head? := hnx
  have hmem : Lst h done ∈ h :: ns ∧ o < g.ht (Lst h done) := by
    rcases List.mem_cons.1 (Lst_mem h done) with h1 | h1
    · rw [h1, s.hh]; exact ⟨List.mem_cons_self .., by omega⟩
    · have : Lst h done ∈ lv g.ht o (lo (KY key g) kq ns) := by rw [e]; exact List.mem_append_left _ h1
      have := mem_lv.1 this
      exact ⟨List.mem_cons_of_mem _ (mem_lo.1 this.1).1, this.2⟩
  have hN := s.ms.n _ hmem.1
  have hnd2 := hnd
  rw [e, List.append_assoc] at hnd2
  have hidx : (h :: lv g.ht o (lo (KY key g) kq ns)).idxOf (Lst h done) = done.length := by
    rw [e]; exact idx_Lst (by rw [e] at hnd; exact (List.nodup_append.1 (by rw [← List.cons_append] at hnd; exact hnd)).1)
  have hka : Known w' (oA a) := s.ms.known fun x hx => by
    rcases List.mem_cons.1 (ha x hx) with rfl | h1
    · exact List.mem_cons_self ..
    · have : x ∈ lv g.ht o (lo (KY key g) kq ns) := by rw [e]; exact List.mem_append_left _ h1
      exact List.mem_cons_of_mem _ (mem_lo.1 (mem_lv.1 this).1).1
  unfold F71_L2
  simp only [oA_some]
  rw [NN_mk]
  refine load_slice (i := 0) hN.a rfl (ldP hN.f hmem.2 ?_)
  rw [hnx]
  cases rest with
  | nil =>
    have ed : lv g.ht o (lo (KY key g) kq ns) = done := by rw [e, List.append_nil]
    rw [List.nil_append]
    cases hz : (lv g.ht o (hi (fun x => key (g.en x)) kq ns)).head? with
    | none =>
      simp only [oA_none, Option.isNone_none, Bool.not_true, BIf_false]
      have := hk w' pos' f
      rw [ed] at this
      exact this
    | some z =>
      have hz1 : z ∈ lv g.ht o (hi (fun x => key (g.en x)) kq ns) := List.mem_of_mem_head? (by rw [hz]; rfl)
      have hz2 := mem_hi.1 (mem_lv.1 hz1).1
      simp only [oA_some, Option.isNone_some, Bool.not_false, BIf_true]
      rw [NN_mk]
      refine load_slice (i := 0) hN.a rfl (ldP hN.f hmem.2 ?_)
      rw [List.nil_append, hz] at hnx
      rw [hnx]
      refine ptr_neq (s.ms.known fun x hx => by cases hx; exact List.mem_cons_of_mem _ hz2.1) hka ?_
      rw [decide_eq_true (show oA (some z) ≠ oA a from fun he => by
        have := oA_inj.1 he
        have hm := ha z this.symm
        rw [List.nil_append] at hnd2
        rw [← List.cons_append] at hnd2
        exact (List.nodup_append.1 hnd2).2.2 z hm z hz1 rfl)]
      rw [BIf_true, NN_mk]
      refine load_slice (i := 0) hN.a rfl (ldP hN.f hmem.2 ?_)
      rw [hnx]
      refine F72_call (F72_spec (s.ms.n z (List.mem_cons_of_mem _ hz2.1)) hC hf (hes z hz2.1) fun w2 f2 => back_int ?_)
      rw [ord_lt, decide_eq_false (show ¬ key (g.en z) < kq by have := hz2.2; omega), BIf_false]
      have := hk w2 pos' (f.trans f2 fun _ h => h.elim)
      rw [ed] at this
      exact this
  | cons y rest =>
    have hy1 : y ∈ lv g.ht o (lo (KY key g) kq ns) := by rw [e]; simp
    have hy2 := mem_lo.1 (mem_lv.1 hy1).1
    have hnx : g.f (Lst h done) o = some y := hnx
    rw [List.cons_append, List.head?_cons]
    simp only [oA_some, Option.isNone_some, Bool.not_false, BIf_true]
    rw [NN_mk]
    refine load_slice (i := 0) hN.a rfl (ldP hN.f hmem.2 ?_)
    rw [hnx]
    refine ptr_neq (s.ms.known fun x hx => by cases hx; exact List.mem_cons_of_mem _ hy2.1) hka ?_
    rw [decide_eq_true (show oA (some y) ≠ oA a from fun he => by
      have := oA_inj.1 he
      have hm := ha y this.symm
      rw [← List.cons_append] at hnd2
      exact (List.nodup_append.1 hnd2).2.2 y hm y (List.mem_cons_self ..) rfl)]
    rw [BIf_true, NN_mk]
    refine load_slice (i := 0) hN.a rfl (ldP hN.f hmem.2 ?_)
    rw [hnx]
    refine F72_call (F72_spec (s.ms.n y (List.mem_cons_of_mem _ hy2.1)) hC hf (hes y hy2.1) fun w2 f2 => back_int ?_)
    rw [ord_lt, decide_eq_true (show key (g.en y) < kq from hy2.2), BIf_true, NN_mk]
    have hN2 := hN.fr f2 id id id
    refine load_slice (i := 1) hN2.a rfl (ldW hN2.v hmem.2 fun v => ?_)
    rw [NN_mk]
    refine load_slice (i := 0) hN2.a rfl (ldP hN2.f hmem.2 ?_)
    rw [hnx]
    refine ⟨⟨(by trivial), (by trivial), (by trivial), (by trivial), (by trivial), (by trivial), (by trivial), (by trivial), (by trivial), (by trivial), f.trans f2 fun _ h => h.elim, done ++ [y], rest, a, by rw [e]; simp, by rw [Lst_app]; trivial, by trivial, fun x hx => ?_⟩, ?_⟩
    · have := ha x hx
      simp only [List.mem_cons, List.mem_append] at this ⊢
      rcases this with h | h
      · exact .inl h
      · exact .inr (.inl h)
    · have h2 : (h :: lv g.ht o (lo (KY key g) kq ns)).idxOf y = done.length + 1 := by
        have := idx_Lst (h := h) (a := done ++ [y]) (b := rest) (by
          have := hnd
          rw [e] at this
          have := (List.nodup_append.1 (by rw [← List.cons_append] at this; exact this)).1
          simpa using this)
        rw [Lst_app] at this
        rw [e]
        simpa using this
      show _ - (h :: lv g.ht o (lo (KY key g) kq ns)).idxOf y < _ - (h :: lv g.ht o (lo (KY key g) kq ns)).idxOf (Lst h done)
      rw [hidx, h2, e]
      simp; omega

theorem F71_spec {k : Value → W} {up : Option Addr} {ul uc : Nat} {wp : Option Addr} {wl wc : Nat}
    (s : SLm key w sl ns g M L h cb pb d c) (h0 : ns ≠ []) (hlen : ns.length < 4294967296) (hC : CmpOk key (fun b => b = cb ∨ b = pb) w es q kq) (hes : ∀ x ∈ ns, g.en x ∈ es)
    (hu : up = none ∨ (up = some ⟨cb, 0, none⟩ ∧ ul = M ∧ wp = some ⟨pb, 0, none⟩ ∧ wl = M))
    (hk : ∀ w' c' pos, SLm key w' sl ns g M L h cb pb d c' → Fr (fun b => b = cb ∨ b = pb) w w' → (up ≠ none → ∀ i, i ≤ L → c' i = some (Lst h (lv g.ht i (lo (KY key g) kq ns)))) →
      k (.tuple #[.pointer (oA (hi (KY key g) kq ns).head?), .int .u64 pos]) w') :
    F71 k (some ⟨sl, 0, none⟩) q up ul uc wp wl wc w := by
  unfold F71
  refine F75_call (F75_spec s (back_int ?_))
  rw [show (((ns.length : Nat) : Int) == 0) = false by rw [beq_eq_false_iff_ne]; have := List.length_pos_iff.2 h0; omega, BIf_false, NN_mk]
  refine load_ptr (i := 2) s.hd rfl ?_
  have hM := s.L1
  have hM64 := s.M64
  refine F71_L1_rule (I := fun sl' q' p l c p2 l2 c2 pos' a' n' i' w' => sl' = some ⟨sl, 0, none⟩ ∧ q' = q ∧ p = up ∧ l = ul ∧ c = uc ∧ p2 = wp ∧ l2 = wl ∧ c2 = wc ∧ Fr (fun b => b = cb ∨ b = pb) w w' ∧
      ∃ (i : Nat) (c' : Nat → Option Nat) (a : Option Nat) (n : Nat), i' = ((i : Nat) : Int) ∧ i ≤ L + 1 ∧ a' = oA a ∧ n' = oA (some n) ∧ SLm key w' sl ns g M L h cb pb d c' ∧ (up ≠ none → ∀ j, j ≤ L → L < j + i → c' j = some (Lst h (lv g.ht j (lo (KY key g) kq ns)))) ∧
      (i = 0 ∧ n = h ∧ a = none ∨ 0 < i ∧ n = Lst h (lv g.ht (L + 1 - i) (lo (KY key g) kq ns)) ∧ a = some n))
    (μ := fun sl' q' p l c p2 l2 c2 pos' a' n' i' w' => L + 1 - i'.toNat) ?_
    ⟨rfl, rfl, rfl, rfl, rfl, rfl, rfl, rfl, Fr.refl _ _, 0, c, none, h, rfl, by omega, rfl, rfl, s, fun _ j _ hj => by omega, .inl ⟨rfl, rfl, rfl⟩⟩
  rintro _ _ _ _ _ _ _ _ pos' _ _ _ w' ⟨rfl, rfl, rfl, rfl, rfl, rfl, rfl, rfl, f, i, c', a, n, rfl, hi1, rfl, rfl, s, hc, hst⟩
  unfold F71_L1
  rw [NN_mk]
  refine load_int (i := 1) s.hd rfl ?_
  by_cases hi2 : i ≤ L
  · rw [decide_eq_true (show ((i : Nat) : Int) ≤ ((L : Nat) : Int) by omega), BIf_true, NN_mk]
    refine load_int (i := 1) s.hd rfl ?_
    rw [show subI .u8 ((L : Nat) : Int) ((i : Nat) : Int) = ((L - i : Nat) : Int) from (wrap_u8 (by omega) (by omega)).trans (by omega)]
    have key1 : ∃ done rest, lv g.ht (L - i) (lo (KY key g) kq ns) = done ++ rest ∧ n = Lst h done ∧ ∀ x, a = some x → x ∈ h :: done := by
      rcases hst with ⟨rfl, rfl, rfl⟩ | ⟨h1, h2, rfl⟩
      · exact ⟨[], _, rfl, rfl, fun x hx => by cases hx⟩
      · obtain ⟨a, b, e1, e2, e3⟩ := split_at (h := h) (l := lv g.ht (L + 1 - i) (lo (KY key g) kq ns)) (l' := lv g.ht (L - i) (lo (KY key g) kq ns)) (fun x hx => by
          have := mem_lv.1 hx; exact mem_lv.2 ⟨this.1, by omega⟩)
        refine ⟨a, b, e1, by rw [h2, e2], fun x hx => ?_⟩
        cases hx
        rw [h2]; exact e3
    obtain ⟨done, rest, e1, rfl, e3⟩ := key1
    refine F71_L2_spec s hC f hes (by omega) e1 e3 fun w2 pos2 f2 => ?_
    have s2 := s.fr0 f2
    have f02 := f.trans f2 (fun _ h => h.elim)
    have hadd : addI .u8 ((i : Nat) : Int) 1 = ((i + 1 : Nat) : Int) := (wrap_u8 (by omega) (by omega)).trans (by omega)
    unfold F71_J1
    rw [hadd]
    rcases hu with hu | ⟨hu, hul, hwp, hwl⟩
    · subst hu
      simp only [Option.isNone_none, Bool.not_true, BIf_false]
      refine ⟨⟨(by trivial), (by trivial), (by trivial), (by trivial), (by trivial), (by trivial), (by trivial), (by trivial), f02, i + 1, c', some (Lst h (lv g.ht (L - i) (lo (KY key g) kq ns))), Lst h (lv g.ht (L - i) (lo (KY key g) kq ns)), by trivial, by omega, by trivial, by trivial, s2, fun h => absurd rfl h, .inr ⟨by omega, by rw [show L + 1 - (i + 1) = L - i by omega], rfl⟩⟩, ?_⟩
      show L + 1 - (((i + 1 : Nat) : Int)).toNat < L + 1 - ((i : Nat) : Int).toNat
      omega
    · rw [hul, hwp, hwl]
      subst hu
      simp only [Option.isNone_some, Bool.not_false, BIf_true]
      refine stP s2.ca (show L - i < _ by omega) fun w3 b3 f3 z3 => ?_
      have hcb : ∀ {b m}, Wd w2 b m → b ≠ cb := fun hw e => by
        obtain ⟨ws, _, hw⟩ := hw
        rw [e] at hw; exact absurd (hw.unique s2.ca).1 (by decide)
      have s3 : SLm key w3 sl ns g M L h cb pb d (up c' (L - i) (some (Lst h (lv g.ht (L - i) (lo (KY key g) kq ns))))) :=
        ⟨s2.hd.fr f3 (fun e => by have := s2.hd; rw [show sl = cb from e] at this; exact absurd (this.unique s2.ca).1 (by decide)), b3, s2.pw.fr f3 (hcb s2.pw),
          s2.ms.fr f3 (fun x hx => ⟨fun e => by have := (s2.ms.n x hx).a; rw [show x = cb from e] at this; exact absurd (this.unique s2.ca).1 (by decide), s2.ne x hx, hcb (s2.ms.n x hx).v⟩),
          s2.nd, s2.ne, s2.hh, s2.M8, s2.M64, s2.L1, s2.ht, s2.pa, s2.so, fun e => absurd e h0⟩
      refine stW s3.pw (show L - i < _ by omega) fun w4 e4 f4 z4 => ?_
      have hpb := s3.pw
      have s4 : SLm key w4 sl ns g M L h cb pb d (up c' (L - i) (some (Lst h (lv g.ht (L - i) (lo (KY key g) kq ns))))) := by
        obtain ⟨ws, _, hb⟩ := hpb
        exact ⟨s3.hd.fr f4 (fun e => by have := s3.hd; rw [show sl = pb from e] at this; exact absurd (this.unique hb).1 (by decide)), s3.ca.fr f4 (fun e => by have := s3.ca; rw [show cb = pb from e] at this; exact absurd (this.unique hb).1 (by decide)), e4 _ _ s3.pw,
          s3.ms.setW s3.pw e4 f4, s3.nd, s3.ne, s3.hh, s3.M8, s3.M64, s3.L1, s3.ht, s3.pa, s3.so, fun e => absurd e h0⟩
      have f04 := (f02.trans f3 fun b hb => .inl (.inl hb)).trans f4 fun b hb => .inl (.inr hb)
      refine ⟨⟨(by trivial), (by trivial), (by trivial), (by trivial), (by trivial), (by trivial), (by trivial), (by trivial), f04, i + 1, _, some (Lst h (lv g.ht (L - i) (lo (KY key g) kq ns))), Lst h (lv g.ht (L - i) (lo (KY key g) kq ns)), by trivial, by omega, by trivial, by trivial, s4, fun hne j hj1 hj2 => ?_, .inr ⟨by omega, by rw [show L + 1 - (i + 1) = L - i by omega], rfl⟩⟩, ?_⟩
      · by_cases e : j = L - i
        · rw [e, up_same]
        · rw [up_ne _ _ e]; exact hc hne j hj1 (by omega)
      · show L + 1 - (((i + 1 : Nat) : Int)).toNat < L + 1 - ((i : Nat) : Int).toNat
        omega
  · have hiL : i = L + 1 := by omega
    subst hiL
    rw [decide_eq_false (show ¬ (((L + 1 : Nat) : Int) ≤ ((L : Nat) : Int)) by omega), BIf_false]
    rcases hst with ⟨h1, _⟩ | ⟨_, h2, _⟩
    · omega
    rw [show L + 1 - (L + 1) = 0 by omega] at h2
    have hmem : n ∈ h :: ns ∧ 0 < g.ht n := by
      rw [h2]
      rcases List.mem_cons.1 (Lst_mem h (lv g.ht 0 (lo (KY key g) kq ns))) with h1 | h1
      · rw [h1, s.hh]; exact ⟨List.mem_cons_self .., by omega⟩
      · have := mem_lv.1 h1
        exact ⟨List.mem_cons_of_mem _ (mem_lo.1 this.1).1, this.2⟩
    have hN := s.ms.n _ hmem.1
    simp only [oA_some]
    rw [NN_mk]
    refine load_slice (i := 0) hN.a rfl ?_
    refine ldP (i := 0) hN.f hmem.2 ?_
    have hx := (s.pa' kq (show 0 < M by omega)).at
    have hx : g.f (Lst h (lv g.ht 0 (lo (KY key g) kq ns))) 0 = (lv g.ht 0 (hi (KY key g) kq ns)).head? := hx
    rw [h2, hx, show lv g.ht 0 (hi (KY key g) kq ns) = hi (KY key g) kq ns from List.filter_eq_self.2 fun x hx => by
      have := s.ht x (mem_hi.1 hx).1; simp; omega]
    exact hk w' c' _ s f fun hne j hj => hc hne j hj (by omega)
/-- Of an empty list nothing is found. -/
theorem F71_none {k : Value → W} {up : Option Addr} {ul uc : Nat} {wp : Option Addr} {wl wc : Nat} (s : SLm key w sl [] g M L h cb pb d c) (hk : k (.tuple #[.pointer none, .int .u64 1]) w) : F71 k (some ⟨sl, 0, none⟩) q up ul uc wp wl wc w := by
  unfold F71
  refine F75_call (F75_spec s (back_int ?_))
  exact hk
end
end Go.Proofs.YtfokodpnoiilbaaGreat.E
