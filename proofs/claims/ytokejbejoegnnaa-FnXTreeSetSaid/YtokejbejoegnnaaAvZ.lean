/-
  Steps done: what becomes of the trees, and what is said.
-/
import Derived.Test.YtokejbejoegnnaaAvY
import Derived.Test.YtokejbejoegnnaaAvT
import Derived.Test.YtokejbejoegnnaaFlm
namespace Go.Proofs.Ytokejbejoegnnaa.E
open Go Tr
set_option linter.unusedSimpArgs false
set_option linter.unusedVariables false
set_option maxRecDepth 100000
set_option maxHeartbeats 4000000

structure Stp where
  op : Int
  fm : Nat
  ip : Option Addr
  ic : Nat
  es : List It2
def stc (s : Stp) : List Value := [.int .i64 s.op, .int .i64 (s.fm : Nat), .slice s.ip s.es.length s.ic]
theorem stc_len (s : Stp) : (stc s).length = 3 := rfl
theorem stc_one (s : Stp) : ∀ u ∈ stc s, u.oneCell' = true := by
  intro u hu
  simp only [stc, List.mem_cons, List.not_mem_nil, or_false] at hu
  rcases hu with rfl | rfl | rfl <;> rfl
/-- Steps that can be read at p. -/
def StM (w : World) (p : Option Addr) (ss : List Stp) : Prop := ∀ (i : Nat) (s : Stp), ss[i]? = some s → ∃ a, p = some a ∧ w.cell? ((a.add (i * 3)).add 0) = some (.int .i64 s.op) ∧ w.cell? ((a.add (i * 3)).add 1) = some (.int .i64 (s.fm : Nat)) ∧ w.cell? ((a.add (i * 3)).add 2) = some (.slice s.ip s.es.length s.ic) ∧ Edges w s.ip s.es
theorem StM.fr0 {w w' : World} {p : Option Addr} {ss : List Stp} (h : StM w p ss) (f : Fr (fun _ => False) w w') : StM w' p ss := fun i s hs => by
  obtain ⟨a, h1, h2, h3, h4, h5⟩ := h i s hs
  exact ⟨a, h1, by rw [f.cell (cell_lt h2) id]; exact h2, by rw [f.cell (cell_lt h3) id]; exact h3, by rw [f.cell (cell_lt h4) id]; exact h4, h5.fr0 f⟩
theorem stM_of {w : World} {q : Nat} {ss : List Stp} (hc : ∀ (i : Nat) (s : Stp) (j : Nat), ss[i]? = some s → j < 3 → w.cell? ⟨q, i * 3 + j, none⟩ = (stc s)[j]?) (hE : ∀ s ∈ ss, Edges w s.ip s.es) : StM w (some ⟨q, 0, none⟩) ss := fun i s hs => by
  refine ⟨_, rfl, ?_, ?_, ?_, hE s (List.mem_of_getElem? hs)⟩
  · rw [add_mk, add_mk, Nat.zero_add]; exact hc i s 0 hs (by omega)
  · rw [add_mk, add_mk, Nat.zero_add]; exact hc i s 1 hs (by omega)
  · rw [add_mk, add_mk, Nat.zero_add]; exact hc i s 2 hs (by omega)

/-- What is said of a tree: its size, and what was returned. -/
abbrev Sd := Nat × List (Option It2)
structure SdR where
  n : Int
  sp : Option Addr
  sl : Nat
  sc : Nat
  hp : Option Addr
  hl : Nat
  hc : Nat
def sdc (r : SdR) : List Value := [.int .i64 r.n, .slice r.sp r.sl r.sc, .slice r.hp r.hl r.hc]
theorem sdc_len (s : SdR) : (sdc s).length = 3 := rfl
theorem sdc_one (s : SdR) : ∀ u ∈ sdc s, u.oneCell' = true := by
  intro u hu
  simp only [sdc, List.mem_cons, List.not_mem_nil, or_false] at hu
  rcases hu with rfl | rfl | rfl <;> rfl
structure SOk (w : World) (base : Nat) (r : SdR) (s : Sd) : Prop where
  n : r.n = (s.1 : Nat)
  sl : r.sl = s.2.length
  hl : r.hl = s.2.length
  said : OwnN w 40 2 r.sp s.2.length r.sc (flat (svals s.2))
  has : Own w 4 r.hp s.2.length r.hc (bools (hass s.2))
  new : ∀ b, bl r.sp b ∨ bl r.hp b → base ≤ b
theorem OwnN.blk {w : World} {e : TypeId} {sz : Nat} {p : Option Addr} {l c : Nat} {vs : List Value} (h : OwnN w e sz p l c vs) {b : Nat} (hb : bl p b) : ∃ us, Blk w b e us := by
  obtain ⟨a, rfl, rfl⟩ := hb
  rcases h.2 with ⟨h, _⟩ | ⟨q, rest, h, hb, _⟩
  · cases h
  · cases h; exact ⟨_, hb⟩
theorem SOk.fr {S : Nat → Prop} {w w' : World} {base : Nat} {r : SdR} {s : Sd} (h : SOk w base r s) (f : Fr S w w') (hS : ∀ b, S b → b < base ∨ ∃ t us, Blk w b t us ∧ t ≠ 40 ∧ t ≠ 4) : SOk w' base r s := by
  refine ⟨h.n, h.sl, h.hl, h.said.fr f fun b hb hs => ?_, h.has.fr f fun b hb hs => ?_, h.new⟩
  · rcases hS b hs with h1 | ⟨t, us, h1, h2, h3⟩
    · have := h.new b (.inl hb); omega
    · obtain ⟨vs, hv⟩ := h.said.blk hb
      exact h2 (h1.unique hv).1
  · rcases hS b hs with h1 | ⟨t, us, h1, h2, h3⟩
    · have := h.new b (.inr hb); omega
    · obtain ⟨vs, hv⟩ := h.has.blk hb
      exact h3 (h1.unique hv).1
theorem SOk.fr0 {w w' : World} {base : Nat} {r : SdR} {s : Sd} (h : SOk w base r s) (f : Fr (fun _ => False) w w') : SOk w' base r s := h.fr f fun _ h => h.elim
theorem SOk.weak {w : World} {base base' : Nat} {r : SdR} {s : Sd} (h : SOk w base r s) (hb : base' ≤ base) : SOk w base' r s := ⟨h.n, h.sl, h.hl, h.said, h.has, fun b hb' => Nat.le_trans hb (h.new b hb')⟩
/-- A row of what was said. -/
def Outs (w : World) (base : Nat) (p : Option Addr) (c : Nat) (out : List Sd) : Prop :=
  ∃ rs : List SdR, OwnN w 42 3 p out.length c (rs.flatMap sdc) ∧ (∀ b, bl p b → base ≤ b) ∧ rs.length = out.length ∧ ∀ (i : Nat) (r : SdR) (s : Sd), rs[i]? = some r → out[i]? = some s → SOk w base r s
theorem Outs.fr {S : Nat → Prop} {w w' : World} {base : Nat} {p : Option Addr} {c : Nat} {out : List Sd} (h : Outs w base p c out) (f : Fr S w w') (hS : ∀ b, S b → b < base ∨ ∃ t us, Blk w b t us ∧ t ≠ 40 ∧ t ≠ 4 ∧ t ≠ 42) : Outs w' base p c out := by
  obtain ⟨rs, h1, h2, h3, h4⟩ := h
  refine ⟨rs, h1.fr f fun b hb hs => ?_, h2, h3, fun i r s hr hs => (h4 i r s hr hs).fr f fun b hb => (hS b hb).imp id fun ⟨t, us, a, b, c, _⟩ => ⟨t, us, a, b, c⟩⟩
  rcases hS b hs with h1' | ⟨t, us, h1', _, _, h5⟩
  · have := h2 b hb; omega
  · obtain ⟨vs, hv⟩ := h1.blk hb
    exact h5 (h1'.unique hv).1
theorem Outs.fr0 {w w' : World} {base : Nat} {p : Option Addr} {c : Nat} {out : List Sd} (h : Outs w base p c out) (f : Fr (fun _ => False) w w') : Outs w' base p c out := h.fr f fun _ h => h.elim
theorem fill51 (r : SdR) : ∀ i : TypeInfo, i.size = 3 → Instr.fill (fun j => some (j * i.size, i.size)) ((Array.range (1 * i.size)).map (z42.cells[· % z42.cells.size]!)) [(0, .agg #[.int .i64 r.n, .slice r.sp r.sl r.sc, .slice r.hp r.hl r.hc])] = some ([r].flatMap sdc).toArray := by
  intro i h
  rw [h]
  kernel_rfl
/-- One more is said. -/
theorem outs_snoc {K : Option Addr → Nat → Nat → W} {w : World} {base : Nat} {p : Option Addr} {c : Nat} {out : List Sd} {r : SdR} {s : Sd} (h : Outs w base p c out) (hr : SOk w base r s) (hb : out.length < 100000) (hbase : base ≤ w.heap.size)
    (hk : ∀ p' c' w', Outs w' base p' c' (out ++ [s]) → Fr (fun b => bl p b) w w' → K p' (out.length + 1) c' w') :
    RawT Try.prog (Instr.buildSlice 51 1 [(0, .agg #[.int .i64 r.n, .slice r.sp r.sl r.sc, .slice r.hp r.hl r.hc])].toArray) (.s (.one .slice)) (fun a m d => NextT Try.prog (builtin .append #[51, 51] 51 [false, false].toArray [.slice p out.length c, .slice a m d].toArray) (.s (.one .slice)) K) w := by
  obtain ⟨ii, g1, g2, g3, g4⟩ := inf42
  refine build_intro und51 g1 g2 (by omega) (by omega) (fill51 r ii g3) fun w1 f1 b1 z1 => ?_
  have hr1 := hr.fr0 f1
  obtain ⟨rs, h1, h2, h3, h4⟩ := h.fr0 f1
  refine append_own (P := Try.prog) und51 g1 g2 g3 (by decide) rfl g4 h1 (news := [r].flatMap sdc) (m := 1) rfl ?_ (fm_one sdc_one _) (by omega) fun p' c' w' f' o' hp' => ?_
  · intro j u hj
    rw [add_mk, Nat.zero_add, b1.cell]; exact hj
  · rw [← List.flatMap_append] at o'
    have hfr : ∀ b, bl p b → b < base ∨ ∃ t us, Blk w1 b t us ∧ t ≠ 40 ∧ t ≠ 4 := fun b hb => by
      obtain ⟨us, hu⟩ := h1.blk hb
      exact .inr ⟨42, us, hu, by decide, by decide⟩
    refine hk p' c' w' ⟨rs ++ [r], by rw [List.length_append]; exact o', fun b hb => (hp' b hb).elim (h2 b) fun h => by have := f1.size; omega, by simp [h3], fun i r' s' hr' hs' => ?_⟩ ((f1.mono fun _ h => h.elim).trans f' fun b h => .inl h)
    rcases Nat.lt_trichotomy i rs.length with hl | hl | hl
    · rw [List.getElem?_append_left hl] at hr'
      rw [List.getElem?_append_left (by omega)] at hs'
      exact (h4 i r' s' hr' hs').fr f' hfr
    · subst hl
      rw [show rs.length = out.length from h3] at hs'
      simp at hr' hs'
      subst hr' hs'
      exact hr1.fr f' hfr
    · rw [List.getElem?_eq_none (by simp; omega)] at hr'; cases hr'

/-! ## The trees -/
def Trs (w : World) (base : Nat) (p : Option Addr) (c : Nat) (Ls : List (Option (List It2))) : Prop :=
  ∃ ps : List (Option Addr), Own w 68 p Ls.length c (ps.map .pointer) ∧ (∀ b, bl p b → base ≤ b) ∧ ∀ (i : Nat) (L : List It2), Ls[i]? = some (some L) → ∃ ib t num, ps[i]? = some (some ⟨ib, 0, none⟩) ∧ TM w 0 ib t num ∧ t.list = L ∧ (∀ b ∈ t.bs, base ≤ b)
theorem Trs.fr {S : Nat → Prop} {w w' : World} {base : Nat} {p : Option Addr} {c : Nat} {Ls : List (Option (List It2))} (h : Trs w base p c Ls) (f : Fr S w w') (hS : ∀ b, S b → ∃ t us, Blk w b t us ∧ t ≠ 68 ∧ t ≠ 119 ∧ t ≠ 121) : Trs w' base p c Ls := by
  obtain ⟨ps, h1, h2, h3⟩ := h
  refine ⟨ps, h1.fr f fun b hb hs => ?_, h2, fun i L hL => ?_⟩
  · obtain ⟨vs, hv⟩ := h1.blk hb
    obtain ⟨t, us, a, b, _⟩ := hS _ hs
    exact b (a.unique hv).1
  · obtain ⟨ib, t, num, a1, a2, a3, a4⟩ := h3 i L hL
    refine ⟨ib, t, num, a1, ⟨Blk.fr a2.im f fun hs => ?_, a2.tr.fr f fun b hb hs => ?_, a2.avl, a2.srt, a2.nd, a2.num, a2.root, a2.ibb⟩, a3, a4⟩
    · obtain ⟨t, us, a, _, _, c⟩ := hS _ hs
      exact c (a.unique a2.im).1
    · obtain ⟨vs, hv⟩ := blk_of a2.tr hb
      obtain ⟨t, us, a, _, c, _⟩ := hS _ hs
      exact c (a.unique hv).1
theorem Trs.fr0 {w w' : World} {base : Nat} {p : Option Addr} {c : Nat} {Ls : List (Option (List It2))} (h : Trs w base p c Ls) (f : Fr (fun _ => False) w w') : Trs w' base p c Ls := h.fr f fun _ h => h.elim
theorem trs_snoc {K : Option Addr → Nat → Nat → W} {w : World} {base : Nat} {p : Option Addr} {c : Nat} {Ls : List (Option (List It2))} {ib num : Nat} {t : Tr} (h : Trs w base p c Ls) (hT : TM w 0 ib t num) (hbs : ∀ b ∈ t.bs, base ≤ b) (hb : Ls.length < 100000) (hbase : base ≤ w.heap.size)
    (hk : ∀ p' c' w', Trs w' base p' c' (Ls ++ [some t.list]) → TM w' 0 ib t num → Fr (fun b => bl p b) w w' → K p' (Ls.length + 1) c' w') :
    RawT Try.prog (Instr.buildSlice 65 1 [(0, .pointer (some ⟨ib, 0, none⟩))].toArray) (.s (.one .slice)) (fun a m d => NextT Try.prog (builtin .append #[65, 65] 65 [false, false].toArray [.slice p Ls.length c, .slice a m d].toArray) (.s (.one .slice)) K) w := by
  obtain ⟨ii, g1, g2, g3, g4⟩ := inf68
  obtain ⟨ps, h1, h2, h3⟩ := h
  have hl : ps.length = Ls.length := by simpa using h1.1
  refine append1 (P := Try.prog) und65 g1 g2 g3 rfl (by omega) h1 rfl rfl (by omega) fun p' c' w' f' o' hp' hs' => ?_
  have hS : ∀ b, bl p b → ∃ us, Blk w b 68 us := fun b hb => h1.blk hb
  have keep : ∀ {ib' t' num'}, TM w 0 ib' t' num' → TM w' 0 ib' t' num' := fun a2 => ⟨Blk.fr a2.im f' fun hs => by
      obtain ⟨us, a⟩ := hS _ hs
      exact absurd (a.unique a2.im).1 (by decide), a2.tr.fr f' fun b hb hs => by
      obtain ⟨vs, hv⟩ := blk_of a2.tr hb
      obtain ⟨us, a⟩ := hS _ hs
      exact absurd (a.unique hv).1 (by decide), a2.avl, a2.srt, a2.nd, a2.num, a2.root, a2.ibb⟩
  refine hk p' c' w' ⟨ps ++ [some ⟨ib, 0, none⟩], ?_, fun b hb => (hp' b hb).elim (h2 b) fun h => by omega, fun i L hL => ?_⟩ (keep hT) f'
  · rw [List.map_append, List.length_append]; exact o'
  · rcases Nat.lt_trichotomy i Ls.length with hll | hll | hll
    · rw [List.getElem?_append_left hll] at hL
      obtain ⟨ib', t', num', a1, a2, a3, a4⟩ := h3 i L hL
      exact ⟨ib', t', num', by rw [List.getElem?_append_left (by omega)]; exact a1, keep a2, a3, a4⟩
    · subst hll
      simp at hL
      exact ⟨ib, t, num, by rw [← hl]; simp, keep hT, hL, hbs⟩
    · rw [List.getElem?_eq_none (by simp; omega)] at hL; cases hL

/-! ## A step, plain -/
inductive Step (s : Stp) (Ls : List (Option (List It2))) : List (Option (List It2)) → Sd → Prop
  | ins {L L' : List It2} {vs : List (Option It2)} : s.op = 1 → Srt L → Ls[s.fm % Ls.length]? = some (some L) → InsAll L s.es L' vs → Step s Ls (Ls ++ [some L']) (L'.length, vs)
  | del {L L' : List It2} {vs : List (Option It2)} : s.op = 2 → Srt L → Ls[s.fm % Ls.length]? = some (some L) → DelAll L s.es L' vs → Step s Ls (Ls.map (fun _ => none) ++ [some L']) (L'.length, vs)
  | get {L : List It2} : s.op = 3 → Srt L → Ls[s.fm % Ls.length]? = some (some L) → Step s Ls Ls (L.length, s.es.map fun e => look L (kx e))
def SFit (s : Stp) (Ls : List (Option (List It2))) : Prop := 0 < s.es.length ∧ s.es.length ≤ 100 ∧ s.fm ≤ 100 ∧ (s.op = 1 ∨ s.op = 2 ∨ s.op = 3) ∧ ∃ L, Ls[s.fm % Ls.length]? = some (some L) ∧ L.length ≤ 60
/-- What holds when all steps are done. -/
def After (Q : List (Option (List It2)) → List Sd → Prop) : List Stp → List (Option (List It2)) → List Sd → Prop
  | [], Ls, out => Q Ls out
  | s :: ss, Ls, out => SFit s Ls ∧ ∀ Ls' sd, Step s Ls Ls' sd → After Q ss Ls' (out ++ [sd])
theorem ix_eq {fr n : Nat} (h : 0 < n) (hn : n < 1000) : remI (addI .i64 (remI ((fr : Nat) : Int) ((n : Nat) : Int)) ((n : Nat) : Int)) ((n : Nat) : Int) = ((fr % n : Nat) : Int) := by
  have hm := Nat.mod_lt fr h
  have e1 : remI ((fr : Nat) : Int) ((n : Nat) : Int) = ((fr % n : Nat) : Int) := by rw [remI_eq (by omega)]; exact (Int.natCast_emod fr n).symm
  rw [e1, addI_i64 (by omega) (by omega), remI_eq (by omega), ← Int.natCast_add, ← Int.natCast_emod, Nat.add_mod_right, Nat.mod_mod]
theorem fill65 (p : Option Addr) : ∀ i : TypeInfo, i.size = 1 → Instr.fill (fun j => some (j * i.size, i.size)) ((Array.range (1 * i.size)).map ((Value.pointer none).cells[· % (Value.pointer none).cells.size]!)) [(0, .pointer p)] = some [Value.pointer p].toArray := by
  intro i h
  rw [h]
  kernel_rfl
theorem back_pair {f : Option Addr → Nat → Nat → Option Addr → Nat → Nat → W} {p q : Option Addr} {l c m d : Nat} {w : World} (h : f p l c q m d w) : Back (.tup [(.one .slice), (.one .slice)]) f (.returned (.tuple #[.slice p l c, .slice q m d])) w := ⟨((p, l, c), (q, m, d), ()), rfl, h⟩
theorem back_ps {f : Option Addr → Option Addr → Nat → Nat → W} {p q : Option Addr} {m d : Nat} {w : World} (h : f p q m d w) : Back (.tup [(.one .ptr), (.one .slice)]) f (.returned (.tuple #[.pointer p, .slice q m d])) w := ⟨(p, (q, m, d), ()), rfl, h⟩

/-- avAll. -/
theorem F26_spec {k : Value → W} {w : World} {p : Option Addr} {c : Nat} {ss : List Stp} {Q : List (Option (List It2)) → List Sd → Prop} (hS : StM w p ss) (hl : ss.length ≤ 10) (hA : After Q ss [some []] [])
    (hk : ∀ lp ln lc op on oc w' Ls out, Q Ls out → ln = Ls.length → Ls.length ≤ 11 → on = out.length → Trs w' w.heap.size lp lc Ls → Outs w' w.heap.size op oc out → Fr (fun _ => False) w w' → k (.tuple #[.slice lp ln lc, .slice op on oc]) w') : F26 k p ss.length c w := by
  unfold F26
  refine F42_call (F42_spec fun ib w1 T1 hib f1 => back_ptr ?_)
  obtain ⟨ii, g1, g2, g3, g4⟩ := inf68
  refine build_intro und65 g1 g2 (by omega) (by omega) (fill65 _ ii g3) fun w2 f2 b2 z2 => ?_
  have f02 := f1.trans f2 fun _ h => h.elim
  have hsz1 := f1.size
  have t2 : Trs w2 w.heap.size (some ⟨w1.heap.size, 0, none⟩) 1 [some []] := by
    refine ⟨[some ⟨ib, 0, none⟩], Own.ofN (OwnN.made b2 rfl (by decide)), fun b ⟨a, h, e⟩ => by cases h; have e : w1.heap.size = b := e; omega, fun i L hL => ?_⟩
    cases i with
    | zero => simp at hL; subst hL; exact ⟨ib, nil, 0, rfl, T1.fr0 f2, rfl, fun b h => by cases h⟩
    | succ i => simp at hL
  have o2 : Outs w2 w.heap.size none 0 [] := ⟨[], OwnN.nil _ _ _, fun b ⟨a, h, e⟩ => (by cases h), rfl, fun i r s h => by cases h⟩
  refine F26_L1_rule (fun lp ln lc op on oc sp sl sc x7 x8 w' => sp = p ∧ sl = ss.length ∧ x7 = (ss.length : Nat) ∧ ∃ (i : Nat) (Ls : List (Option (List It2))) (out : List Sd), x8 = i ∧ i ≤ ss.length ∧ ln = Ls.length ∧ 0 < Ls.length ∧ Ls.length ≤ i + 1 ∧ on = out.length ∧ out.length = i ∧ After Q (ss.drop i) Ls out ∧ Trs w' w.heap.size lp lc Ls ∧ Outs w' w.heap.size op oc out ∧ Fr (fun _ => False) w w')
    (fun _ _ _ _ _ _ _ _ _ x7 x8 _ => (x7 - x8).toNat) ?_ ⟨rfl, rfl, rfl, 0, [some []], [], rfl, Nat.zero_le _, rfl, by simp, by simp, rfl, rfl, hA, t2, o2, f02⟩
  rintro lp ln lc op on oc sp sl sc x7 x8 w3 ⟨e1, e2, rfl, i, Ls, out, rfl, hi, rfl, hL0, hLi, rfl, hoi, hA, T3, O3, f3⟩
  obtain rfl := e1.symm; obtain rfl := e2.symm
  unfold F26_L1
  by_cases hil : i < ss.length
  rotate_left
  · rw [decide_eq_false (by omega)]
    simp only [BIf_false]
    rw [List.drop_eq_nil_of_le (by omega)] at hA
    exact hk _ _ _ _ _ _ w3 Ls out hA rfl (by omega) rfl T3 O3 f3
  rw [decide_eq_true (by omega)]
  have hget : ss[i]? = some (ss[i]'(by omega)) := List.getElem?_eq_getElem _
  have hdrop : ss.drop i = (ss[i]'(by omega)) :: ss.drop (i + 1) := List.drop_eq_getElem_cons (by omega)
  rw [hdrop] at hA
  generalize ss[i]'(by omega) = s at hget hA
  obtain ⟨⟨hs0, hs1, hs2, hop, L, hLs, hLl⟩, hnext⟩ := hA
  obtain ⟨a, rfl, c1, c2, c3, hE⟩ := hS.fr0 f3 i s hget
  simp only [BIf_true, NN_mk, Int.toNat_natCast]
  refine ⟨by omega, LoadT_int.2 ⟨_, c1, LoadT_int.2 ⟨_, c2, LoadT_slice.2 ⟨_, _, _, c3, ?_⟩⟩⟩⟩
  refine new_intro fun n w4 e4 b4 f4 z4 => ?_
  refine store_intro (i := 0) b4 (by simp) rfl fun w5 b5 f5 z5 => ?_
  refine store_intro (i := 1) b5 (by simp) rfl fun w6 b6 f6 z6 => ?_
  refine store_intro (i := 2) b6 (by simp) rfl fun w7 b7 f7 z7 => ?_
  have f37 : Fr (fun _ => False) w3 w7 := ((f4.trans f5 fun b h => .inr (by have : b = n := h; omega)).trans f6 fun b h => .inr (by have : b = n := h; omega)).trans f7 fun b h => .inr (by have : b = n := h; omega)
  refine load_int (i := 1) b7 rfl ?_
  have hLn : ((Ls.length : Nat) : Int) ≠ 0 := by omega
  rw [ix_eq hL0 (by omega)]
  have hmod := Nat.mod_lt s.fm hL0
  obtain ⟨ps, hps, hpb, hpt⟩ := T3.fr0 f37
  obtain ⟨ib', t, num, a1, a2, a3, a4⟩ := hpt _ L hLs
  have hpl : ps.length = Ls.length := by simpa using hps.1
  obtain ⟨lq, lrest, rfl, hlq, _, _⟩ := hps.get hL0
  refine ⟨hLn, hLn, ?_⟩
  simp only [NN_mk, Int.toNat_natCast]
  refine ⟨by omega, LoadT_ptr.2 ⟨_, by rw [add_mk, Nat.zero_add, hps.cell (by omega), List.getElem?_map, a1]; rfl, ?_⟩⟩
  refine load_int (i := 0) b7 rfl ?_
  have hE7 := hE.fr0 f37
  have f07 := f3.trans f37 fun _ h => h.elim
  have T7 := T3.fr0 f37
  have O7 := O3.fr0 f37
  have hw7 : w.heap.size ≤ w7.heap.size := f07.size
  have hsrt := a2.srt
  have hnum := a2.num
  rw [a3] at hsrt hnum
  -- what is said
  have J1 : ∀ (lp : Option Addr) (lc : Nat) (Ls' : List (Option (List It2))) (ib2 num2 : Nat) (t2 : Tr) (q : Option Addr) (cq : Nat) (vs : List (Option It2)) (w8 : World), Trs w8 w.heap.size lp lc Ls' → TM w8 0 ib2 t2 num2 → VIts w8 q vs → vs.length = s.es.length → num2 ≤ 1000 → Outs w8 w.heap.size op oc out → Fr (fun _ => False) w w8 → 0 < Ls'.length → Ls'.length ≤ i + 2 → Step s Ls Ls' (num2, vs) →
      F26_J1 k (fun lp ln lc op on oc sp sl sc x7 x8' w' => (sp = some a ∧ sl = ss.length ∧ x7 = (ss.length : Nat) ∧ ∃ (i : Nat) (Ls : List (Option (List It2))) (out : List Sd), x8' = i ∧ i ≤ ss.length ∧ ln = Ls.length ∧ 0 < Ls.length ∧ Ls.length ≤ i + 1 ∧ on = out.length ∧ out.length = i ∧ After Q (ss.drop i) Ls out ∧ Trs w' w.heap.size lp lc Ls ∧ Outs w' w.heap.size op oc out ∧ Fr (fun _ => False) w w') ∧ (x7 - x8').toNat < (((ss.length : Nat) : Int) - ((i : Nat) : Int)).toNat) lp Ls'.length lc op out.length oc (some ⟨ib2, 0, none⟩) q s.es.length cq (some a) ss.length sc ((ss.length : Nat) : Int) ((i : Nat) : Int) w8 := by
    intro lp lc Ls' ib2 num2 t2 q cq vs w8 T8 M8 V8 hvl hn2 O8 f8 hl0 hl2 hst
    unfold F26_J1
    rw [← hvl]
    have hw8 := f8.size
    refine F27_call (F27_spec M8 V8 (by omega) (by omega) fun sp2 sc2 hp2 hc2 w9 oS oH hnew f9 => ?_)
    refine ⟨(((num2 : Nat) : Int), (sp2, vs.length, sc2), (hp2, vs.length, hc2), ()), rfl, ?_⟩
    have f09 := f8.trans f9 fun _ h => h.elim
    refine outs_snoc (r := ⟨(num2 : Nat), sp2, vs.length, sc2, hp2, vs.length, hc2⟩) (s := (num2, vs)) (O8.fr0 f9) ⟨rfl, rfl, rfl, oS, oH, fun b hb => Nat.le_trans hw8 (hnew b hb)⟩ (by omega) f09.size fun p' c' wa Oa fa => ?_
    rw [add_one (by omega)]
    have hta : ∀ b, bl op b → ∃ us, Blk w9 b 42 us := fun b hb => by
      obtain ⟨rs, h1, _⟩ := O8.fr0 f9
      exact h1.blk hb
    have hob : ∀ b, bl op b → w.heap.size ≤ b := fun b hb => by
      obtain ⟨rs, _, h2, _⟩ := O8
      exact h2 b hb
    refine ⟨⟨(by trivial), (by trivial), (by trivial), i + 1, Ls', out ++ [(num2, vs)], rfl, by omega, rfl, hl0, by omega, by simp, by simp [hoi], hnext Ls' _ hst, (T8.fr0 f9).fr fa fun b hb => ?_, Oa, f09.trans fa fun b hb => .inr (hob b hb)⟩, by omega⟩
    obtain ⟨us, hu⟩ := hta b hb
    exact ⟨42, us, hu, by decide, by decide, by decide⟩
  have hN : ∀ b, bl s.ip b → b < w7.heap.size := fun b ⟨a, ha, hb⟩ => by
    obtain ⟨x, hx⟩ : ∃ x, s.es[0]? = some x := ⟨s.es[0]'hs0, List.getElem?_eq_getElem hs0⟩
    obtain ⟨a', ha', c1, _⟩ := hE7 0 x hx
    rw [ha] at ha'; cases ha'
    have := cell_lt c1
    have e : ((a.add (0 * 2)).add 0).block = a.block := by simp [Addr.add]
    rw [e] at this; omega
  by_cases ho1 : s.op = 1
  · rw [show (s.op == 1) = true by simpa using ho1]
    simp only [BIf_true]
    refine load_slice (i := 2) b7 rfl ?_
    refine F29_call (F29_spec hE7 (by omega) fun q c' w8 oq hq f8 => back_slice ?_)
    have hqe := Own.eits oq
    refine F43_call ?_
    rw [show s.es.length = (s.es).length from rfl]
    refine F43_spec (a2.fr0 f8) hqe (fun b hb => oq.lt hb) hs0 (by omega) fun ib2 t2 num2 vs q2 c2 w9 T9 hib2 I9 hb9 o9 hq9 f9 => back_ps ?_
    have f79 := f8.trans f9 fun _ h => h.elim
    have f09 := f07.trans f79 fun _ h => h.elim
    have hbs2 : ∀ b ∈ t2.bs, w.heap.size ≤ b := fun b hb => (hb9 b hb).elim (a4 b) fun h => by have := f8.size; omega
    have hI := I9.len (by rw [a3]; exact hsrt)
    rw [a3] at I9 hI
    refine trs_snoc (T7.fr0 f79) T9 hbs2 (by omega) f09.size fun p' c3 wa Ta Ma fa => ?_
    have hlb : ∀ b, bl (some (⟨lq, 0, none⟩ : Addr)) b → w.heap.size ≤ b ∧ ∃ us, Blk w9 b 68 us := fun b hb => by
      obtain ⟨ps', h1, h2, _⟩ := T7.fr0 f79
      exact ⟨h2 b hb, h1.blk hb⟩
    have hVa : VIts wa q2 vs := by
      have := Own.vits (o9.fr fa fun b hb hb' => by
        obtain ⟨us, hu⟩ := o9.blk hb
        obtain ⟨_, us', hu'⟩ := hlb b hb'
        exact absurd (hu.unique hu').1 (by decide))
      exact this
    have hJ := J1 p' c3 _ ib2 num2 t2 q2 c2 vs wa Ta Ma hVa hI.2.2 (by have := T9.num; omega) ((O7.fr0 f79).fr fa fun b hb => by
      obtain ⟨_, us, hu⟩ := hlb b hb
      exact .inr ⟨68, us, hu, by decide, by decide, by decide⟩) (f09.trans fa fun b hb => .inr (hlb b hb).1) (by simp) (by simp; omega) (by
      have := Step.ins ho1 hsrt hLs I9
      rw [← T9.num] at this
      exact this)
    rw [List.length_append] at hJ
    exact hJ
  rw [show (s.op == 1) = false by simpa using ho1]
  simp only [BIf_false]
  by_cases ho2 : s.op = 2
  · rw [show (s.op == 2) = true by simpa using ho2]
    simp only [BIf_true]
    refine load_slice (i := 2) b7 rfl ?_
    refine F29_call (F29_spec hE7 (by omega) fun q c' w8 oq hq f8 => back_slice ?_)
    have hqe := Own.eits oq
    refine F44_call ?_
    have hqb : ∀ b, bl q b → b ≠ ib' ∧ b ∉ t.bs ∧ b < w8.heap.size := fun b hb => by
      have h1 := hq b hb
      refine ⟨fun h => ?_, fun h => ?_, oq.lt hb⟩
      · have := a2.im.lt; omega
      · have := a2.tr.lt b h; omega
    refine F44_spec (a2.fr0 f8) hqe hqb hs0 (by omega) (by omega) fun ib2 t2 num2 vs q2 c2 w9 T9 hib2 I9 hb9 o9 hq9 f9 => back_ps ?_
    have hbs2 : ∀ b ∈ t2.bs, w.heap.size ≤ b := fun b hb => (hb9 b hb).elim (a4 b) fun h => by have := f8.size; omega
    have hI := I9.len (by rw [a3]; exact hsrt)
    rw [a3] at I9 hI
    have f08 := f07.trans f8 fun _ h => h.elim
    have f09 : Fr (fun _ => False) w w9 := f08.trans f9 fun b hb => .inr (a4 b hb)
    have ty119 : ∀ b, b ∈ t.bs → ∃ us, Blk w8 b 119 us := fun b hb => blk_of (a2.tr.fr0 f8) hb
    have T9d : Trs w9 w.heap.size (some ⟨lq, 0, none⟩) lc (Ls.map fun _ => none) := by
      obtain ⟨ps', h1, h2, _⟩ := T7.fr0 f8
      have h9 := h1.fr f9 fun b hb hb' => by
        obtain ⟨us, hu⟩ := h1.blk hb
        obtain ⟨us', hu'⟩ := ty119 b hb'
        exact absurd (hu.unique hu').1 (by decide)
      refine ⟨ps', by rw [List.length_map]; exact h9, h2, fun i L hL => ?_⟩
      · rw [List.getElem?_map] at hL
        cases hx : Ls[i]? with
        | none => rw [hx] at hL; simp at hL
        | some y => rw [hx] at hL; simp at hL
    have O9 : Outs w9 w.heap.size op oc out := (O7.fr0 f8).fr f9 fun b hb => by
      obtain ⟨us, hu⟩ := ty119 b hb
      exact .inr ⟨119, us, hu, by decide, by decide, by decide⟩
    have hml : (Ls.map fun _ => (none : Option (List It2))).length = Ls.length := List.length_map ..
    rw [← hml]
    refine trs_snoc T9d T9 hbs2 (by rw [hml]; omega) f09.size fun p' c3 wa Ta Ma fa => ?_
    have hlb : ∀ b, bl (some (⟨lq, 0, none⟩ : Addr)) b → w.heap.size ≤ b ∧ ∃ us, Blk w9 b 68 us := fun b hb => by
      obtain ⟨ps', h1, h2, _⟩ := T9d
      exact ⟨h2 b hb, h1.blk hb⟩
    have hVa : VIts wa q2 vs := by
      have := Own.vits (o9.fr fa fun b hb hb' => by
        obtain ⟨us, hu⟩ := o9.blk hb
        obtain ⟨_, us', hu'⟩ := hlb b hb'
        exact absurd (hu.unique hu').1 (by decide))
      exact this
    have hJ := J1 p' c3 _ ib2 num2 t2 q2 c2 vs wa Ta Ma hVa hI.2.2 (by have := T9.num; omega) (O9.fr fa fun b hb => by
      obtain ⟨_, us, hu⟩ := hlb b hb
      exact .inr ⟨68, us, hu, by decide, by decide, by decide⟩) (f09.trans fa fun b hb => .inr (hlb b hb).1) (by simp) (by simp; omega) (by
      have := Step.del ho2 hsrt hLs I9
      rw [← T9.num] at this
      exact this)
    rw [List.length_append] at hJ
    exact hJ
  rw [show (s.op == 2) = false by simpa using ho2]
  have ho3 : s.op = 3 := by rcases hop with h | h | h <;> omega
  rw [show (s.op == 3) = true by simpa using ho3]
  simp only [BIf_false, BIf_true]
  refine load_slice (i := 2) b7 rfl ?_
  refine F29_call (F29_spec hE7 (by omega) fun q c' w8 oq hq f8 => back_slice ?_)
  have hqe := Own.eits oq
  refine F28_call (F28_spec (a2.fr0 f8) hqe (by omega) fun q2 c2 w9 o9 hq9 f9 => back_slice ?_)
  have f79 := f8.trans f9 fun _ h => h.elim
  refine J1 _ lc Ls ib' num t q2 c2 _ w9 (T7.fr0 f79) ((a2.fr0 f8).fr0 f9) (Own.vits o9) (by simp) (by omega) (O7.fr0 f79) (f07.trans f79 fun _ h => h.elim) hL0 (by omega) ?_
  have := Step.get ho3 hsrt hLs
  rw [a3, hnum]
  exact this
/-- AVRun. -/
theorem F24_spec {k : Value → W} {w : World} {p : Option Addr} {c : Nat} {ss : List Stp} {Q : List (Option (List It2)) → List Sd → Prop} (hS : StM w p ss) (hl : ss.length ≤ 10) (hA : After Q ss [some []] [])
    (hk : ∀ op oc w' Ls out, Q Ls out → Outs w' w.heap.size op oc out → Fr (fun _ => False) w w' → k (.slice op out.length oc) w') : F24 k p ss.length c w := by
  unfold F24
  refine F26_call (F26_spec hS hl hA fun lp ln lc op on oc w' Ls out hQ _ _ e2 _ hO f => back_pair ?_)
  subst e2
  exact hk op oc w' Ls out hQ hO f
end Go.Proofs.Ytokejbejoegnnaa.E
