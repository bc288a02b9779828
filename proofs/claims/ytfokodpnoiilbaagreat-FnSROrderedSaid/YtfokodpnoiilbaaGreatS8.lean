/-
  Skip lists: a new one; iterators.
-/
import Derived.Test.YtfokodpnoiilbaaGreatS7
namespace Go.Proofs.YtfokodpnoiilbaaGreat.E
open Go
set_option linter.unusedSimpArgs false
set_option linter.unusedVariables false
set_option maxRecDepth 100000
set_option maxHeartbeats 4000000

theorem ta {v : Value} {t : TypeId} {z : Value} {b : Bool} {f : Value → W} {w : World} (h : (Instr.typeAssert v 20 t true).run Tryz.prog w = .ok (.tuple #[z, .bool b]) w) (hk : f (.tuple #[z, .bool b]) w) : RawS Tryz.prog (Instr.typeAssert v 20 t true) (.s (.one .any)) f w := ⟨(_, ()), h, hk⟩
theorem extb {z : Value} {b : Bool} {f : Bool → W} {w : World} (hk : f b w) : ExtW (.tuple #[z, .bool b]) 1 (.one .bool) f w := ⟨(b, ()), ⟨_, rfl, rfl⟩, hk⟩
theorem exti {q : IntKind} {n : Int} {b : Bool} {f : Int → W} {w : World} (hk : f n w) : ExtW (.tuple #[.int q n, .bool b]) 0 (.one (.int q)) f w := ⟨(n, ()), ⟨_, rfl, rfl⟩, hk⟩
theorem t8_8 (w : World) : (Instr.typeAssert (.iface 5 (.int .u8 0)) 20 5 true).run Tryz.prog w = .ok (.tuple #[.int .u8 0, .bool true]) w := by kernel_rfl
theorem t16_8 (w : World) : (Instr.typeAssert (.iface 110 (.int .u16 0)) 20 5 true).run Tryz.prog w = .ok (.tuple #[.int .u8 0, .bool false]) w := by kernel_rfl
theorem t16_16 (w : World) : (Instr.typeAssert (.iface 110 (.int .u16 0)) 20 110 true).run Tryz.prog w = .ok (.tuple #[.int .u16 0, .bool true]) w := by kernel_rfl
theorem t32_8 (w : World) : (Instr.typeAssert (.iface 111 (.int .u32 0)) 20 5 true).run Tryz.prog w = .ok (.tuple #[.int .u8 0, .bool false]) w := by kernel_rfl
theorem t32_16 (w : World) : (Instr.typeAssert (.iface 111 (.int .u32 0)) 20 110 true).run Tryz.prog w = .ok (.tuple #[.int .u16 0, .bool false]) w := by kernel_rfl
theorem t32_32 (w : World) : (Instr.typeAssert (.iface 111 (.int .u32 0)) 20 111 true).run Tryz.prog w = .ok (.tuple #[.int .u32 0, .bool true]) w := by kernel_rfl
theorem t64_8 (w : World) : (Instr.typeAssert (.iface 29 (.int .u64 0)) 20 5 true).run Tryz.prog w = .ok (.tuple #[.int .u8 0, .bool false]) w := by kernel_rfl
theorem t64_16 (w : World) : (Instr.typeAssert (.iface 29 (.int .u64 0)) 20 110 true).run Tryz.prog w = .ok (.tuple #[.int .u16 0, .bool false]) w := by kernel_rfl
theorem t64_32 (w : World) : (Instr.typeAssert (.iface 29 (.int .u64 0)) 20 111 true).run Tryz.prog w = .ok (.tuple #[.int .u32 0, .bool false]) w := by kernel_rfl
theorem t64_33 (w : World) : (Instr.typeAssert (.iface 29 (.int .u64 0)) 20 29 true).run Tryz.prog w = .ok (.tuple #[.int .u64 0, .bool true]) w := by kernel_rfl
theorem t64_193 (w : World) : (Instr.typeAssert (.iface 29 (.int .u64 0)) 20 112 true).run Tryz.prog w = .ok (.tuple #[.int .u64 0, .bool false]) w := by kernel_rfl

/-- A universe. -/
def Uv (v : Value) (M : Nat) : Prop := v = .iface 5 (.int .u8 0) ∧ M = 8 ∨ v = .iface 110 (.int .u16 0) ∧ M = 16 ∨ v = .iface 111 (.int .u32 0) ∧ M = 32 ∨ v = .iface 29 (.int .u64 0) ∧ M = 64
def newV (M : Nat) : List Value := [.int .u8 (M : Nat), .int .u8 0, .pointer none, .int .u64 0, .slice none 0 0, .slice none 0 0, .int .u64 0]
theorem F32_J1_spec {key : Value → Int} {k : Value → W} {w : World} {a M : Nat} (h8 : 8 ≤ M) (h64 : M ≤ 64) (hB : Blk w a 107 (newV M))
    (hk : ∀ w' F, SK key w' a F [] → Fr (fun b => b = a) w w' → (∀ b, F b → b = a ∨ w.heap.size ≤ b) → k (.tuple #[]) w') : F32_J1 k (some ⟨a, 0, none⟩) w := by
  have ha := hB.lt
  unfold F32_J1
  rw [NN_mk]
  refine load_int (i := 0) hB rfl ?_
  refine mk_ptrs h64 fun w1 cb f1 b1 l1 => ?_
  have h1 := hB.fr f1 id
  rw [NN_mk]
  refine store_intro (i := 4) h1 (by simp [newV]) rfl fun w2 h2 f2 z2 => ?_
  have b2 := b1.fr f2 (show ¬ cb = a by omega)
  rw [NN_mk]
  refine load_int (i := 0) h2 rfl ?_
  refine mk_wds h64 fun w3 pb f3 b3 l3 => ?_
  have h3 := h2.fr f3 id
  have c3 := b2.fr f3 id
  have hz1 := f1.size
  have hz3 := f3.size
  rw [NN_mk]
  refine store_intro (i := 5) h3 (by simp [newV]) rfl fun w4 h4 f4 z4 => ?_
  have c4 := c3.fr f4 (show ¬ cb = a by omega)
  have b4 := b3.fr f4 (show ¬ pb = a by omega)
  rw [NN_mk]
  refine load_int (i := 0) h4 rfl ?_
  refine F33_call (F33_spec h64 rfl fun w5 x fb wb a5 f5' v5 x1 x2 x3 f5 => back_ptr ?_)
  have h5 := h4.fr f5 id
  have c5 := c4.fr f5 id
  have b5 := b4.fr f5 id
  have hz5 := f5.size
  rw [NN_mk]
  refine store_intro (i := 2) h5 (by simp [newV]) rfl fun w6 h6 f6 z6 => ?_
  have f06 : Fr (fun b => b = a) w w6 := (((((f1.mono (S' := fun b => b = a) fun _ h => h.elim).trans f2 fun _ h => .inl h).trans f3 fun _ h => h.elim).trans f4 fun _ h => .inl h).trans f5 fun _ h => h.elim).trans f6 fun _ h => .inl h
  refine hk w6 _ ⟨[], ⟨fun _ => fb, fun _ => wb, fun _ => M, fun _ => .nilIface, fun _ _ => none⟩, M, 0, x, cb, pb, 0, fun _ => none, ⟨h6, c5.fr f6 (show ¬ cb = a by omega), b5.fr f6 (show ¬ pb = a by omega), ⟨fun y hy => ?_, fun y hy z hz _ => ?_⟩, by simp, fun y hy => ?_, rfl, h8, h64, by omega,
    fun y hy => (by cases hy), fun i hi => rfl, List.Pairwise.nil, fun _ i hi => by omega⟩, rfl, rfl⟩ f06 fun b hb => ?_
  · have : y = x := by simpa using hy
    subst this
    exact ⟨a5.fr f6 (show ¬ y = a by omega), f5'.fr f6 (show ¬ fb = a by omega), v5.fr f6 (show ¬ wb = a by omega)⟩
  · have h1 : y = x := by simpa using hy
    have h2 : z = x := by simpa using hz
    rw [h1, h2]
  · have := c4.lt
    show fb ≠ cb
    omega
  · rcases hb with h | h | h | ⟨y, hy, h⟩
    · exact .inl h
    · right; omega
    · right; omega
    · right
      have hyx : y = x := by simpa using hy
      have h : b = y ∨ b = fb ∨ b = wb := h
      rcases h with h | h | h <;> omega
theorem F32_spec {key : Value → Int} {k : Value → W} {w : World} {a M : Nat} {v : Value} (hv : Uv v M) (hB : Blk w a 107 (newV 0))
    (hk : ∀ w' F, SK key w' a F [] → Fr (fun b => b = a) w w' → (∀ b, F b → b = a ∨ w.heap.size ≤ b) → k (.tuple #[]) w') : F32 k (some ⟨a, 0, none⟩) v w := by
  have fin : 8 ≤ M → M ≤ 64 → (NN (some ⟨a, 0, none⟩) fun a6 => Store1 a6 (.int .u8 (M : Nat)) <| F32_J1 k (some ⟨a, 0, none⟩)) w := fun h8 h64 => by
    rw [NN_mk]
    refine store_intro (i := 0) hB (by simp [newV]) rfl fun w1 b1 f1 z1 => ?_
    exact F32_J1_spec h8 h64 b1 fun w2 F K f2 hF => hk w2 F K (f1.trans f2 fun _ h => .inl h) fun b hb => (hF b hb).imp id fun h => by omega
  unfold F32
  rcases hv with ⟨rfl, rfl⟩ | ⟨rfl, rfl⟩ | ⟨rfl, rfl⟩ | ⟨rfl, rfl⟩
  · refine ta (t8_8 w) (extb (exti ?_))
    exact fin (by decide) (by decide)
  · refine ta (t16_8 w) (extb (exti ?_))
    refine ta (t16_16 w) (extb (exti ?_))
    exact fin (by decide) (by decide)
  · refine ta (t32_8 w) (extb (exti ?_))
    refine ta (t32_16 w) (extb (exti ?_))
    refine ta (t32_32 w) (extb (exti ?_))
    exact fin (by decide) (by decide)
  · refine ta (t64_8 w) (extb (exti ?_))
    refine ta (t64_16 w) (extb (exti ?_))
    refine ta (t64_32 w) (extb (exti ?_))
    refine ta (t64_33 w) (extb (exti ?_))
    refine ta (t64_193 w) (extb (exti ?_))
    exact fin (by decide) (by decide)
/-- NewSeeded. -/
theorem F29_spec {key : Value → Int} {k : Value → W} {w : World} {M : Nat} {v : Value} {seed : Int} (hv : Uv v M)
    (hk : ∀ w' sl F, SK key w' sl F [] → Fr (fun _ => False) w w' → (∀ b, F b → w.heap.size ≤ b) → k (.pointer (some ⟨sl, 0, none⟩)) w') : F29 k v seed w := by
  unfold F29
  refine F31_call ?_
  unfold F31
  refine new_intro fun n w1 e1 b1 f1 z1 => ?_
  refine F32_call (F32_spec (key := key) hv b1 fun w2 F K f2 hF => back0 (back_ptr ?_))
  obtain ⟨ns, g, M', L, h, cb, pb, d, c, s, e, rfl⟩ := K
  rw [NN_mk]
  refine store_intro (i := 6) s.hd (by simp) rfl fun w3 b3 f3 z3 => ?_
  have H3 := s.hc.setH (num' := ns.length) (L' := L) b3 f3
  refine hk w3 n _ ⟨ns, g, M', L, h, cb, pb, _, c, ⟨H3.hd, H3.ca, H3.pw, s.ms.setH s.hc f3, s.nd, s.ne, s.hh, s.M8, s.M64, s.L1, s.ht, s.pa, s.so, s.c0⟩, e, rfl⟩ ((f1.trans f2 fun b hb => .inr (by have hb : b = n := hb; omega)).trans f3 fun b hb => .inr (by have hb : b = n := hb; omega)) fun b hb => ?_
  rcases hF b hb with h | h <;> omega
/-! ## Iterators -/
/-- A skip list, and an iterator that is ahead of (b: at) what is left. -/
def SKI (key : Value → Int) (w : World) (sl : Nat) (F : Nat → Prop) (vs : List Value) (it : Nat) (b : Bool) (rest : List Value) : Prop :=
  ∃ ns g M L h cb pb d c cur A, SLm key w sl ns g M L h cb pb d c ∧ vs = ns.map g.en ∧ F = Sf sl cb pb (h :: ns) g ∧ ns = A ++ cur ∧ rest = cur.map g.en ∧ Blk w it 169 [.bool b, .pointer (oA cur.head?)]
section
variable {key : Value → Int} {w : World} {sl it : Nat} {F : Nat → Prop} {vs rest : List Value} {b : Bool}
theorem SKI.sk (K : SKI key w sl F vs it b rest) : SK key w sl F vs := by
  obtain ⟨ns, g, M, L, h, cb, pb, d, c, cur, A, s, e1, e2, _⟩ := K
  exact ⟨ns, g, M, L, h, cb, pb, d, c, s, e1, e2⟩
theorem SKI.it_lt (K : SKI key w sl F vs it b rest) : it < w.heap.size := by
  obtain ⟨ns, g, M, L, h, cb, pb, d, c, cur, A, s, e1, e2, _, _, hB⟩ := K
  exact hB.lt
theorem SKI.fr_ty (K : SKI key w sl F vs it b rest) {S : Nat → Prop} {w' : World} (f : Fr S w w') {ts : List TypeId} (hT : Tys S w ts) (ht : ∀ u ∈ ts, (u ≠ 107 ∧ u ≠ 117 ∧ u ≠ 101 ∧ u ≠ 29) ∧ u ≠ 169) : SKI key w' sl F vs it b rest := by
  obtain ⟨ns, g, M, L, h, cb, pb, d, c, cur, A, s, e1, e2, e3, e4, hB⟩ := K
  exact ⟨ns, g, M, L, h, cb, pb, d, c, cur, A, s.fr_ty f hT fun u hu => (ht u hu).1, e1, e2, e3, e4, hB.fr f fun hs => (ht _ (hT _ _ _ hs hB)).2 rfl⟩
theorem F126_spec {k : Value → W} (K : SKI key w sl F vs it b rest)
    (hk : ∀ w', SKI key w' sl F vs it false (if b then rest else rest.tail) → Fr (fun x => x = it) w w' → k (.bool (decide ((if b then rest else rest.tail) ≠ []))) w') : F126 k (some ⟨it, 0, none⟩) w := by
  obtain ⟨ns, g, M, L, h, cb, pb, d, c, cur, A, s, rfl, rfl, rfl, rfl, hB⟩ := K
  have frm : ∀ {w'}, Fr (fun x => x = it) w w' → SLm key w' sl (A ++ cur) g M L h cb pb d c := fun f => s.fr_ty f (Tys.one hB) (by decide)
  unfold F126
  rw [NN_mk]
  refine load_bool (i := 0) hB rfl ?_
  cases b with
  | true =>
    rw [BIf_true, NN_mk]
    refine store_intro (i := 0) hB (by simp) rfl fun w1 b1 f1 z1 => ?_
    rw [NN_mk]
    refine load_ptr (i := 1) b1 rfl ?_
    have := hk w1 ⟨_, g, M, L, h, cb, pb, d, c, cur, A, frm f1, rfl, rfl, rfl, rfl, b1⟩ f1
    rw [show (!(oA cur.head?).isNone) = decide ((if true = true then cur.map g.en else (cur.map g.en).tail) ≠ []) by cases cur <;> simp]
    exact this
  | false =>
    rw [BIf_false, NN_mk]
    refine load_ptr (i := 1) hB rfl ?_
    cases cur with
    | nil =>
      exact hk w ⟨_, g, M, L, h, cb, pb, d, c, [], A, s, rfl, rfl, rfl, rfl, hB⟩ (Fr.refl _ _)
    | cons y cur =>
      rw [List.head?_cons, oA_some, Option.isNone_some, BIf_false, NN_mk]
      refine load_ptr (i := 1) hB rfl ?_
      rw [List.head?_cons, oA_some, NN_mk]
      have hy : y ∈ A ++ y :: cur := by simp
      have hN := s.ms.n y (List.mem_cons_of_mem _ hy)
      refine load_slice (i := 0) hN.a rfl ?_
      refine ldP (i := 0) hN.f (by have := (s.ht y hy).1; omega) ?_
      have hpa := s.pa 0 (by have := s.M8; omega)
      rw [show lv g.ht 0 (A ++ y :: cur) = (A ++ [y]) ++ cur from (List.filter_eq_self.2 fun x hx => by have := (s.ht x hx).1; simp; omega).trans (by simp)] at hpa
      have hat := hpa.at
      rw [Lst_app] at hat
      have hat : g.f y 0 = cur.head? := hat
      rw [hat, NN_mk]
      refine store_intro (i := 1) hB (by simp) rfl fun w1 b1 f1 z1 => ?_
      rw [NN_mk]
      refine load_ptr (i := 1) b1 rfl ?_
      have := hk w1 ⟨_, g, M, L, h, cb, pb, d, c, cur, A ++ [y], frm f1, rfl, rfl, by simp, rfl, b1⟩ f1
      rw [show (!(oA cur.head?).isNone) = decide ((if false = true then (y :: cur).map g.en else ((y :: cur).map g.en).tail) ≠ []) by cases cur <;> simp]
      exact this
theorem F127_spec {k : Value → W} {v : Value} (K : SKI key w sl F vs it b (v :: rest)) (hk : k v w) : F127 k (some ⟨it, 0, none⟩) w := by
  obtain ⟨ns, g, M, L, h, cb, pb, d, c, cur, A, s, rfl, rfl, rfl, e4, hB⟩ := K
  cases cur with
  | nil => cases e4
  | cons y cur =>
    rw [List.map_cons] at e4
    injection e4 with e4 e5
    unfold F127
    rw [NN_mk]
    refine load_ptr (i := 1) hB rfl ?_
    rw [List.head?_cons, oA_some, Option.isNone_some, BIf_false, NN_mk]
    refine load_ptr (i := 1) hB rfl ?_
    rw [List.head?_cons, oA_some, NN_mk]
    refine load_any (i := 2) (s.ms.n y (by simp)).a rfl ?_
    rw [← e4]; exact hk
/-- Iter. -/
theorem F66_spec {k : Value → W} {q : Value} {kq : Int} (K : SK key w sl F vs) (hlen : vs.length < 4294967296) (hC : CmpOk key F w vs q kq)
    (hk : ∀ w' it b rest, SKI key w' sl F vs it b rest → (if b then rest else rest.tail) = hiV key kq vs → w.heap.size ≤ it → Fr F w w' → k (.iface 163 (.pointer (some ⟨it, 0, none⟩))) w') : F66 k (some ⟨sl, 0, none⟩) q w := by
  unfold F66
  refine F74_call ?_
  unfold F74
  obtain ⟨ns, g, M, L, h, cb, pb, d, c, s, rfl, rfl⟩ := K
  have none_ : ∀ w1 c1, SLm key w1 sl ns g M L h cb pb d c1 → Fr (Sf sl cb pb (h :: ns) g) w w1 → hiV key kq (ns.map g.en) = [] →
      CallT Tryz.prog 78 [] (.s (.one .ptr)) (fun p5 => (fun v => Back (.s (.one .ptr)) (fun p3 => k (.iface 163 (.pointer p3))) (.returned v)) (.pointer p5)) w1 := fun w1 c1 s1 f1 hnil => by
    refine F78_call ?_
    unfold F78
    refine new_intro fun n w2 e2 b2 f2 z2 => back_ptr (back_ptr ?_)
    have := f1.size
    exact hk w2 n false [] ⟨ns, g, M, L, h, cb, pb, d, c1, [], ns, s1.fr0 f2, rfl, rfl, by simp, rfl, b2⟩ hnil.symm (by omega) (f1.trans f2 fun _ h => h.elim)
  by_cases h0 : ns = []
  · subst h0
    refine F71_call (F71_none s (back_pu ?_))
    exact none_ w c s (Fr.refl _ _) rfl
  · refine F71_call (F71_spec s h0 (by simpa using hlen) (hC.mono (fun b hb => hb.elim (fun h => .inr (.inl h)) fun h => .inr (.inr (.inl h))) fun e he => he) (fun x hx => List.mem_map_of_mem hx) (.inl rfl) fun w1 c1 p s1 f1 _ => back_pu ?_)
    have f01 : Fr (Sf sl cb pb (h :: ns) g) w w1 := f1.mono fun b hb => .inl (hb.elim (fun h => .inr (.inl h)) fun h => .inr (.inr (.inl h)))
    cases hh : hi (KY key g) kq ns with
    | nil =>
      rw [List.head?_nil, oA_none, Option.isNone_none, BIf_true]
      exact none_ w1 c1 s1 f01 (by rw [← map_hi, hh]; rfl)
    | cons z B =>
      rw [List.head?_cons, oA_some, Option.isNone_some, BIf_false]
      refine new_intro fun n w2 e2 b2 f2 z2 => back_ptr ?_
      have := f1.size
      exact hk w2 n true ((z :: B).map g.en) ⟨ns, g, M, L, h, cb, pb, d, c1, z :: B, lo (KY key g) kq ns, s1.fr0 f2, rfl, rfl, by rw [← hh]; exact lo_hi s.so, rfl, b2⟩ (by rw [← map_hi, hh]; rfl) (by omega) (f01.trans f2 fun _ h => h.elim)
end
end Go.Proofs.YtfokodpnoiilbaaGreat.E
