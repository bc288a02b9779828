/-
  Graphs in memory, and the functions that make them and look at them.
-/
import Derived.Test.YtgmngfgpbjbgjaaDoorPlain
import Derived.Test.YtgmngfgpbjbgjaaDoorWide
import Derived.Test.YtgmngfgpbjbgjaaDoorFnsA
import Derived.Test.YtgmngfgpbjbgjaaDoorArith
import Derived.LaidEql
namespace Go.Proofs.YtgmngfgpbjbgjaaDoor.E
open Go
set_option linter.unusedSimpArgs false
set_option linter.unusedVariables false
set_option maxRecDepth 100000
set_option maxHeartbeats 2000000


theorem und48 : Tryd.prog.underlying 48 = some (.map 20 53) := by kernel_rfl
theorem und53 : Tryd.prog.underlying 53 = some (.map 20 55) := by kernel_rfl
theorem und20 : Tryd.prog.underlying 20 = some (.interface #[]) := by kernel_rfl
theorem und3 : Tryd.prog.underlying 3 = some (.int .i64) := by kernel_rfl
theorem und24 : Tryd.prog.underlying 24 = some (.slice 3) := by kernel_rfl
theorem und39 : Tryd.prog.underlying 39 = some (.slice 20) := by kernel_rfl
theorem und22 : Tryd.prog.underlying 22 = some (.slice 33) := by kernel_rfl
theorem inf3 : ∃ i, Tryd.prog.info? 3 = some i ∧ i.zero = some (.int .i64 0) ∧ i.size = 1 ∧ i.bytes = 8 ∧ i.comparable = true := ⟨_, rfl, by kernel_rfl, by kernel_rfl, by kernel_rfl, by kernel_rfl⟩
theorem inf20 : ∃ i, Tryd.prog.info? 20 = some i ∧ i.zero = some .nilIface ∧ i.size = 1 ∧ i.bytes = 16 := ⟨_, rfl, by kernel_rfl, by kernel_rfl, by kernel_rfl⟩
theorem inf33 : ∃ i, Tryd.prog.info? 33 = some i ∧ i.zero = some (.agg #[.int .i64 0, .int .i64 0]) ∧ i.size = 2 ∧ i.bytes = 16 := ⟨_, rfl, by kernel_rfl, by kernel_rfl, by kernel_rfl⟩
theorem inf53 : ∃ i, Tryd.prog.info? 53 = some i ∧ i.zero = some (.map none) := ⟨_, rfl, by kernel_rfl⟩
theorem inf55 : ∃ i, Tryd.prog.info? 55 = some i ∧ i.zero = some (.agg #[]) := ⟨_, rfl, by kernel_rfl⟩
def kI (n : Int) : Value := .iface 3 (.int .i64 n)
theorem keyI : KeyOk Tryd.prog 20 kI := by obtain ⟨i, h1, h2, h3, h4, h5⟩ := inf3; exact keyOk_iface und20 und3 h1 h5
theorem zero_of {P : Program} {t : TypeId} {i : TypeInfo} {z : Value} (h1 : P.info? t = some i) (h2 : i.zero = some z) (w : World) : (zeroValue t).run P w = .ok z w := by simp [zeroValue, typeInfo, h1, h2]
theorem zero53 (w : World) : (zeroValue 53).run Tryd.prog w = .ok (.map none) w := by obtain ⟨i, h1, h2⟩ := inf53; exact zero_of h1 h2 w
theorem zero55 (w : World) : (zeroValue 55).run Tryd.prog w = .ok (.agg #[]) w := by obtain ⟨i, h1, h2⟩ := inf55; exact zero_of h1 h2 w

/-! ## Look-ups -/
theorem look_mm {w : World} {b : Nat} {l : List (Int × Value)} (h : MapB w b kI l) (a : Int) {f : Option Nat → Bool → W}
    (h1 : getL a l = none → f none false w) (h2 : ∀ v, getL a l = some v → ∃ m, v = .map m ∧ f m true w) :
    RawS Tryd.prog (Instr.lookup 48 (.map (some b)) (kI a) true) (.tup [(.one .map), (.one .bool)]) f w := by
  have hr := lookup_run und48 keyI (zero53 w) h a true
  cases hg : getL a l with
  | none => rw [hg] at hr; exact ⟨(none, false, ()), hr, h1 hg⟩
  | some v =>
    obtain ⟨m, rfl, hk⟩ := h2 v hg
    rw [hg] at hr; exact ⟨(m, true, ()), hr, hk⟩
theorem look_m {w : World} {b : Nat} {l : List (Int × Value)} (h : MapB w b kI l) {a : Int} {m : Option Nat} (hg : getL a l = some (.map m)) {f : Option Nat → W} (hk : f m w) :
    RawS Tryd.prog (Instr.lookup 48 (.map (some b)) (kI a) false) (.s (.one .map)) f w := by
  have hr := lookup_run und48 keyI (zero53 w) h a false
  rw [hg] at hr
  exact ⟨(m, ()), hr, hk⟩
theorem look_in {w : World} {b : Nat} {l : List (Int × Value)} (h : MapB w b kI l) (a : Int) (hl : ∀ v, getL a l = some v → v = .agg #[]) {f : Bool → W} (hk : f (getL a l).isSome w) :
    RawS Tryd.prog (Instr.lookup 53 (.map (some b)) (kI a) true) (.tup [(.agg []), (.one .bool)]) f w := by
  have hr := lookup_run und53 keyI (zero55 w) h a true
  cases hg : getL a l with
  | none => rw [hg] at hr hk; exact ⟨(false, ()), hr, hk⟩
  | some v => rw [hg] at hr hk; obtain rfl := hl v hg; exact ⟨(true, ()), hr, hk⟩
theorem getL_map (a : Int) (f : Int → Value) : ∀ l : List Int, getL a (l.map fun v => (v, f v)) = if a ∈ l then some (f a) else none
  | [] => by simp [getL]
  | x :: l => by
    simp only [List.map_cons, getL, getL_map a f l]
    by_cases h : a = x
    · simp [h]
    · simp [h]
theorem putL_new {a : Int} {v : Value} {l : List (Int × Value)} (h : getL a l = none) : putL a v l = l ++ [(a, v)] := by
  have := idx_get a l 0
  rw [h] at this
  exact putL_push (i := 0) (by simpa using this)

/-! ## Graphs -/
/-- What the graph's functions may turn: blocks from base on that hold no numbers. -/
def Gs (w : World) (base : Nat) : Nat → Prop := fun b => base ≤ b ∧ ∀ vs, ¬ Blk w b 3 vs
theorem gs_trans {w w1 w2 : World} {base : Nat} (f : Fr (Gs w base) w w1) (g : Fr (Gs w1 base) w1 w2) : Fr (Gs w base) w w2 :=
  f.trans g fun b hb => by
    rcases Nat.lt_or_ge b w.heap.size with h | h
    · refine .inl ⟨hb.1, fun vs hv => hb.2 vs (hv.fr f fun hg => hg.2 vs hv)⟩
    · exact .inr h
theorem gs_none {w w1 : World} {base : Nat} (f : Fr (fun _ => False) w w1) : Fr (Gs w base) w w1 := f.mono fun _ h => h.elim
theorem gs_map {w w1 : World} {base b : Nat} {l : List (Int × Value)} (h : MapB w b kI l) (hb : base ≤ b) (f : Fr (fun x => x = b) w w1) : Fr (Gs w base) w w1 :=
  f.mono fun x e => .inl ⟨e ▸ hb, fun vs hv => h.not_blk (e ▸ hv) rfl⟩
theorem gs_blk {w w1 : World} {base b t : Nat} {vs : List Value} (h : Blk w b t vs) (ht : t ≠ 3) (hb : base ≤ b) (f : Fr (fun x => x = b) w w1) : Fr (Gs w base) w w1 :=
  f.mono fun x e => .inl ⟨e ▸ hb, fun vs hv => ht (h.unique (e ▸ hv)).1⟩

/-- The graph at gb. -/
structure GAt (w : World) (base gb bo : Nat) (blk : Int → Nat) (s : G) : Prop where
  gbl : base ≤ gb
  bol : base ≤ bo
  head : Blk w gb 50 [.map (some bo), .int .i64 (s.vs.length : Nat), .int .i64 (s.e : Nat)]
  outer : MapB w bo kI (s.vs.map fun v => (v, .map (some (blk v))))
  inner : ∀ v ∈ s.vs, MapB w (blk v) kI ((s.nb v).map fun x => (x, .agg #[]))
  inb : ∀ v ∈ s.vs, base ≤ blk v ∧ blk v ≠ bo
  inj : ∀ u ∈ s.vs, ∀ v ∈ s.vs, blk u = blk v → u = v
def GRw (w : World) (base gb : Nat) (s : G) : Prop := ∃ bo blk, GAt w base gb bo blk s

theorem GAt.fr {S : Nat → Prop} {w w' : World} {base gb bo : Nat} {blk : Int → Nat} {s : G} (h : GAt w base gb bo blk s) (f : Fr S w w') (hS : ∀ b, S b → b < base ∨ ∃ t vs, Blk w b t vs ∧ t ≠ 50) : GAt w' base gb bo blk s := by
  have nmap : ∀ b l, base ≤ b → MapB w b kI l → ¬ S b := fun b l hb hm hs => by
    rcases hS b hs with h1 | ⟨t, vs, h1, _⟩
    · omega
    · exact hm.not_blk h1 rfl
  refine ⟨h.gbl, h.bol, h.head.fr f fun hs => ?_, h.outer.fr f (nmap _ _ h.bol h.outer), fun v hv => (h.inner v hv).fr f (nmap _ _ (h.inb v hv).1 (h.inner v hv)), h.inb, h.inj⟩
  rcases hS gb hs with h1 | ⟨t, vs, h1, h2⟩
  · have := h.gbl; omega
  · exact h2 (h.head.unique h1).1.symm
theorem GRw.fr {S : Nat → Prop} {w w' : World} {base gb : Nat} {s : G} (h : GRw w base gb s) (f : Fr S w w') (hS : ∀ b, S b → b < base ∨ ∃ t vs, Blk w b t vs ∧ t ≠ 50) : GRw w' base gb s := by
  obtain ⟨bo, blk, h⟩ := h; exact ⟨bo, blk, h.fr f hS⟩
theorem GRw.fr0 {w w' : World} {base gb : Nat} {s : G} (h : GRw w base gb s) (f : Fr (fun _ => False) w w') : GRw w' base gb s := h.fr f fun _ h => h.elim

theorem F18_spec {k : Value → W} {w : World} (hk : ∀ gb w', GRw w' w.heap.size gb G0 → Fr (fun _ => False) w w' → k (.pointer (some ⟨gb, 0, none⟩)) w') : F18 k w := by
  unfold F18
  refine makeMap_intro kI fun n w1 hn m1 f1 z1 => ?_
  refine new_intro fun n2 w2 hn2 b2 f2 z2 => ?_
  refine hk n2 w2 ⟨n, fun _ => 0, by omega, by omega, b2, m1.fr f2 id, by simp [G0], by simp [G0], by simp [G0]⟩ (f1.trans f2 fun _ h => h.elim)

theorem F21_spec {k : Value → W} {w : World} {base gb : Nat} {s : G} {v : Int} (h : GRw w base gb s) (hb : base ≤ w.heap.size) (hl : s.vs.length < 1000000) (hon : ∀ a b, b ∈ s.nb a → a ∈ s.vs)
    (hk : ∀ w', GRw w' base gb (addV s v) → Fr (Gs w base) w w' → k (.tuple #[]) w') : F21 k (some ⟨gb, 0, none⟩) (kI v) w := by
  obtain ⟨bo, blk, h⟩ := h
  unfold F21
  refine load_map h.head rfl ?_
  refine look_mm h.outer v (fun hn => ?_) (fun u hu => ?_)
  rotate_left
  · rw [getL_map] at hu
    by_cases hv : v ∈ s.vs
    · rw [if_pos hv] at hu; cases hu
      refine ⟨_, rfl, ?_⟩
      refine hk w ?_ (Fr.refl _ _)
      rw [addV_id hv]; exact ⟨bo, blk, h⟩
    · rw [if_neg hv] at hu; cases hu
  have hv : v ∉ s.vs := fun hv => by rw [getL_map, if_pos hv] at hn; cases hn
  refine makeMap_intro kI fun n w1 hn1 m1 f1 z1 => ?_
  have h1 := h.fr f1 fun _ h => h.elim
  refine load_map h1.head rfl ?_
  refine mapUpdate_intro und48 keyI h1.outer fun w2 m2 f2 z2 => ?_
  rw [putL_new hn] at m2
  have hnb : n ≠ bo := by have := h.outer.lt; omega
  have head2 := h1.head.fr f2 (fun e => h1.outer.not_blk h1.head e.symm)
  have inner2 : ∀ u ∈ s.vs, MapB w2 (blk u) kI ((s.nb u).map fun x => (x, .agg #[])) := fun u hu => (h1.inner u hu).fr f2 (h1.inb u hu).2
  have mn2 := m1.fr f2 hnb
  refine load_int head2 rfl ?_
  refine store_intro head2 (by simp) rfl fun w3 b3 f3 z3 => ?_
  rw [addI_i64 (by omega) (by omega)] at b3
  have hne : ∀ b l, MapB w2 b kI l → ¬ b = gb := fun b l hm e => hm.not_blk head2 e
  refine hk w3 ?_ ?_
  · have e : addV s v = ⟨s.vs ++ [v], s.nb, s.e⟩ := if_neg hv
    have hlt : ∀ u ∈ s.vs, blk u < n := fun u hu => by have := (h.inner u hu).lt; omega
    rw [e]
    refine ⟨bo, fun x => if x = v then n else blk x, h.gbl, h.bol, ?_, ?_, ?_, ?_, ?_⟩
    · simpa using b3
    · have m3 := m2.fr f3 (hne _ _ m2)
      have e : (s.vs ++ [v]).map (fun x => (x, Value.map (some (if x = v then n else blk x)))) = s.vs.map (fun x => (x, Value.map (some (blk x)))) ++ [(v, Value.map (some n))] := by
        rw [List.map_append]
        congr 1
        · refine List.map_congr_left fun x hx => ?_
          rw [if_neg fun e : x = v => hv (e ▸ hx)]
        · simp
      simp only
      rw [e]; exact m3
    · intro u hu
      rcases List.mem_append.1 hu with hu | hu
      · rw [if_neg fun e : u = v => hv (e ▸ hu)]
        exact (inner2 u hu).fr f3 (hne _ _ (inner2 u hu))
      · simp at hu; subst hu
        rw [if_pos rfl]
        have e : s.nb u = [] := List.eq_nil_iff_forall_not_mem.2 fun b hb => hv (hon u b hb)
        rw [e]; exact mn2.fr f3 (hne _ _ mn2)
    · intro u hu
      rcases List.mem_append.1 hu with hu | hu
      · rw [if_neg fun e : u = v => hv (e ▸ hu)]; exact h.inb u hu
      · simp at hu; subst hu
        rw [if_pos rfl]; exact ⟨by omega, hnb⟩
    · intro u hu x hx he
      rcases List.mem_append.1 hu with gu | gu <;> rcases List.mem_append.1 hx with gx | gx
      · rw [if_neg fun e : u = v => hv (e ▸ gu), if_neg fun e : x = v => hv (e ▸ gx)] at he; exact h.inj u gu x gx he
      · rw [List.mem_singleton] at gx
        rw [if_neg fun e : u = v => hv (e ▸ gu), if_pos gx] at he; have := hlt u gu; omega
      · rw [List.mem_singleton] at gu
        rw [if_neg fun e : x = v => hv (e ▸ gx), if_pos gu] at he; have := hlt x gx; omega
      · rw [List.mem_singleton] at gu gx; rw [gu, gx]
  · exact gs_trans (gs_none f1) (gs_trans (gs_map h1.outer h.bol f2) (gs_blk head2 (by decide) h.gbl f3))

/-! ## Errors -/
/-- The three errors lie in blocks below base. -/
structure Sent (w : World) (base : Nat) (a0 a1 a2 : Addr) : Prop where
  c0 : w.cell? ⟨0, 0, none⟩ = some (.iface 58 (.pointer (some a0)))
  c1 : w.cell? ⟨1, 0, none⟩ = some (.iface 58 (.pointer (some a1)))
  c2 : w.cell? ⟨2, 0, none⟩ = some (.iface 58 (.pointer (some a2)))
  n01 : a0 ≠ a1
  n02 : a0 ≠ a2
  n12 : a1 ≠ a2
  b0 : ∃ c t, w.heap[a0.block]? = some (.cells c t (0, 0))
  b1 : ∃ c t, w.heap[a1.block]? = some (.cells c t (0, 0))
  b2 : ∃ c t, w.heap[a2.block]? = some (.cells c t (0, 0))
  l : 3 ≤ base
  l0 : a0.block < base
  l1 : a1.block < base
  l2 : a2.block < base
  lb : base ≤ w.heap.size
theorem Sent.fr {S : Nat → Prop} {w w' : World} {base : Nat} {a0 a1 a2 : Addr} (h : Sent w base a0 a1 a2) (f : Fr S w w') (hS : ∀ b, S b → base ≤ b) : Sent w' base a0 a1 a2 := by
  have hn : ∀ b, b < base → ¬ S b := fun b hb hs => by have := hS b hs; omega
  have hl := h.lb
  have h3 := h.l
  have g : ∀ b, b < base → w'.heap[b]? = w.heap[b]? := fun b hb => f.block b (by omega) (hn b hb)
  refine ⟨?_, ?_, ?_, h.n01, h.n02, h.n12, ?_, ?_, ?_, h.l, h.l0, h.l1, h.l2, Nat.le_trans hl f.size⟩
  · rw [f.cell (by show 0 < _; omega) (hn _ (by show 0 < _; omega))]; exact h.c0
  · rw [f.cell (by show 1 < _; omega) (hn _ (by show 1 < _; omega))]; exact h.c1
  · rw [f.cell (by show 2 < _; omega) (hn _ (by show 2 < _; omega))]; exact h.c2
  · rw [g _ h.l0]; exact h.b0
  · rw [g _ h.l1]; exact h.b1
  · rw [g _ h.l2]; exact h.b2
theorem Sent.fr0 {w w' : World} {base : Nat} {a0 a1 a2 : Addr} (h : Sent w base a0 a1 a2) (f : Fr (fun _ => False) w w') : Sent w' base a0 a1 a2 := h.fr f fun _ h => h.elim
theorem Sent.up {w : World} {base base' : Nat} {a0 a1 a2 : Addr} (h : Sent w base a0 a1 a2) (hb : base ≤ base') (hl : base' ≤ w.heap.size) : Sent w base' a0 a1 a2 :=
  ⟨h.c0, h.c1, h.c2, h.n01, h.n02, h.n12, h.b0, h.b1, h.b2, Nat.le_trans h.l hb, Nat.lt_of_lt_of_le h.l0 hb, Nat.lt_of_lt_of_le h.l1 hb, Nat.lt_of_lt_of_le h.l2 hb, hl⟩

def errV (a0 a1 a2 : Addr) (n : Int) : Value :=
  if n = 1 then .iface 58 (.pointer (some a0)) else if n = 2 then .iface 58 (.pointer (some a1)) else if n = 3 then .iface 58 (.pointer (some a2)) else .nilIface
theorem und41 : ∃ ms, Tryd.prog.underlying 41 = some (.interface ms) := ⟨_, Tryd.underlying41⟩
theorem und58 : Tryd.prog.underlying 58 = some (.pointer 75) := by kernel_rfl
theorem inf58 : ∃ i, Tryd.prog.info? 58 = some i ∧ i.comparable = true := ⟨_, rfl, by kernel_rfl⟩
theorem inf75 : ∃ i, Tryd.prog.info? 75 = some i ∧ i.size = 1 := ⟨_, rfl, by kernel_rfl⟩
theorem binS_iface {op : BinOp} {ti t : TypeId} {x y : Operand} {a b : Value} {w : World} {r : Result Value} (h : (binOp op ti (.iface t a) b).run Tryd.prog w = r) : (binS op ti x y (.iface t a) b).run Tryd.prog w = r := by
  have e : eqGuard op ti x y (.iface t a) b = pure () := by unfold eqGuard; split <;> rfl
  unfold binS
  rw [e]; exact h
theorem eql_err_same {a : Addr} {x y : Operand} {f : Bool → W} {w : World} (hk : f true w) : RawS Tryd.prog (binS .eql 41 x y (.iface 58 (.pointer (some a))) (.iface 58 (.pointer (some a)))) (.s (.one .bool)) f w := by
  obtain ⟨ms, hm⟩ := und41; obtain ⟨i, h1, h2⟩ := inf58; obtain ⟨j, h3, h4⟩ := inf75
  exact ⟨(true, ()), binS_iface (run_eql_iface_ptr_same _ a hm und58 h1 h2 h3), hk⟩
theorem eql_err_other {a b : Addr} {x y : Operand} {f : Bool → W} {w : World} (hne : a ≠ b) (ha : ∃ c t, w.heap[a.block]? = some (.cells c t (0, 0))) (hb : ∃ c t, w.heap[b.block]? = some (.cells c t (0, 0))) (hk : f false w) :
    RawS Tryd.prog (binS .eql 41 x y (.iface 58 (.pointer (some a))) (.iface 58 (.pointer (some b)))) (.s (.one .bool)) f w := by
  obtain ⟨ms, hm⟩ := und41; obtain ⟨i, h1, h2⟩ := inf58; obtain ⟨j, h3, h4⟩ := inf75
  obtain ⟨ca, ta, ha⟩ := ha; obtain ⟨cb, tb, hb⟩ := hb
  exact ⟨(false, ()), binS_iface (run_eql_iface_ptr_other _ hm und58 h1 h2 h3 (by omega) hne ha hb), hk⟩
theorem eql_key {a b : Int} {x y : Operand} {f : Bool → W} {w : World} (hk : f (decide (a = b)) w) : RawS Tryd.prog (binS .eql 20 x y (kI a) (kI b)) (.s (.one .bool)) f w := by
  obtain ⟨i, h1, h2, h3, h4, h5⟩ := inf3
  refine ⟨(decide (a = b), ()), binS_iface ?_, hk⟩
  simp only [binOp]
  have := run_equal_iface (w := w) und20 und3 h1 h5 a b
  unfold kI
  simp [this]
  rfl

theorem F16_spec {k : Value → W} {w : World} {base : Nat} {a0 a1 a2 : Addr} {n : Int} (h : Sent w base a0 a1 a2) (hn : 0 ≤ n ∧ n ≤ 3) (hk : k (.int .i64 n) w) : F16 k (errV a0 a1 a2 n) w := by
  have h4 : n = 0 ∨ n = 1 ∨ n = 2 ∨ n = 3 := by omega
  unfold F16
  rcases h4 with rfl | rfl | rfl | rfl
  · exact hk
  · refine LoadT_any.2 ⟨_, h.c0, ?_⟩
    exact eql_err_same hk
  · refine LoadT_any.2 ⟨_, h.c0, ?_⟩
    refine eql_err_other h.n01.symm h.b1 h.b0 ?_
    refine LoadT_any.2 ⟨_, h.c1, ?_⟩
    exact eql_err_same hk
  · refine LoadT_any.2 ⟨_, h.c0, ?_⟩
    refine eql_err_other h.n02.symm h.b2 h.b0 ?_
    refine LoadT_any.2 ⟨_, h.c1, ?_⟩
    refine eql_err_other h.n12.symm h.b2 h.b1 ?_
    refine LoadT_any.2 ⟨_, h.c2, ?_⟩
    exact eql_err_same hk
theorem step_err (s : G) (a b : Int) : 0 ≤ (step s a b).2 ∧ (step s a b).2 ≤ 3 := by
  unfold step
  split
  · simp
  · split <;> simp

/-- AddEdge. -/
theorem F19_spec {k : Value → W} {w : World} {base gb : Nat} {a0 a1 a2 : Addr} {s : G} {x y : Int} (h : GRw w base gb s) (hs : Sent w base a0 a1 a2) (hi : GInv s) (hl : s.vs.length < 100000) (he : s.e < 100000)
    (hk : ∀ w', GRw w' base gb (step s x y).1 → Fr (Gs w base) w w' → k (errV a0 a1 a2 (step s x y).2) w') : F19 k (some ⟨gb, 0, none⟩) (kI x) (kI y) w := by
  have hgb : ∀ {w : World} {b : Nat}, Gs w base b → base ≤ b := fun h => h.1
  unfold F19
  refine eql_key ?_
  by_cases hxy : x = y
  · rw [decide_eq_true hxy]
    refine LoadT_any.2 ⟨_, hs.c1, ?_⟩
    have e : step s x y = (s, 2) := if_pos hxy
    rw [e] at hk
    exact hk w h (Fr.refl _ _)
  rw [decide_eq_false hxy]
  refine F21_call (F21_spec h hs.lb (by omega) hi.on fun w1 h1 f1 => back0 ?_)
  have hs1 := hs.fr f1 fun _ => hgb
  have l1 := addV_len s x
  refine F21_call (F21_spec h1 hs1.lb (by omega) (by rw [addV_nb]; exact fun a b hb => addV_mem.2 (.inl (hi.on a b hb))) fun w2 h2 f2 => back0 ?_)
  have hs2 := hs1.fr f2 fun _ => hgb
  have f12 := gs_trans f1 f2
  have mx : x ∈ (addV (addV s x) y).vs := by rw [addV_mem, addV_mem]; exact .inl (.inr rfl)
  have my : y ∈ (addV (addV s x) y).vs := by rw [addV_mem]; exact .inr rfl
  have nbe : (addV (addV s x) y).nb = s.nb := by rw [addV_nb, addV_nb]
  have ee : (addV (addV s x) y).e = s.e := by rw [addV_e, addV_e]
  obtain ⟨bo, blk, g⟩ := h2
  refine load_map g.head rfl ?_
  have gx : getL x ((addV (addV s x) y).vs.map fun v => (v, Value.map (some (blk v)))) = some (.map (some (blk x))) := by rw [getL_map, if_pos mx]
  have gy : getL y ((addV (addV s x) y).vs.map fun v => (v, Value.map (some (blk v)))) = some (.map (some (blk y))) := by rw [getL_map, if_pos my]
  refine look_m g.outer gx ?_
  have ix := g.inner x mx
  have iy := g.inner y my
  rw [nbe] at ix iy
  refine look_in ix y (fun v hv => by rw [getL_map] at hv; split at hv <;> cases hv; rfl) ?_
  rw [getL_map]
  refine new_intro fun n w3 hn b3 f3 z3 => ?_
  have g3 := g.fr f3 fun _ h => h.elim
  have hs3 := hs2.fr0 f3
  have f13 := gs_trans f12 (gs_none f3)
  by_cases hm : y ∈ s.nb x
  · rw [if_pos hm]
    refine LoadT_any.2 ⟨_, hs3.c2, ?_⟩
    have e : step s x y = (addV (addV s x) y, 3) := by unfold step; rw [if_neg hxy, if_pos hm]
    rw [e] at hk
    exact hk w3 ⟨bo, blk, g3⟩ f13
  rw [if_neg hm]
  have hm' : x ∉ s.nb y := fun h => hm (hi.sym y x h)
  have e : step s x y = (link (addV (addV s x) y) x y, 0) := by unfold step; rw [if_neg hxy, if_neg hm]
  rw [e] at hk
  refine load_map g3.head rfl ?_
  refine look_m g3.outer gx ?_
  have ix3 := g3.inner x mx
  have iy3 := g3.inner y my
  rw [nbe] at ix3 iy3
  have hbxy : blk x ≠ blk y := fun e => hxy (g.inj x mx y my e)
  refine mapUpdate_intro und53 keyI ix3 fun w4 m4 f4 z4 => ?_
  rw [putL_new (by rw [getL_map, if_neg hm])] at m4
  have head4 := g3.head.fr f4 fun e => ix3.not_blk g3.head e.symm
  have outer4 := g3.outer.fr f4 (g3.inb x mx).2.symm
  have iy4 := iy3.fr f4 hbxy.symm
  refine load_map head4 rfl ?_
  refine look_m outer4 gy ?_
  refine mapUpdate_intro und53 keyI iy4 fun w5 m5 f5 z5 => ?_
  rw [putL_new (by rw [getL_map, if_neg hm'])] at m5
  have head5 := head4.fr f5 fun e => iy4.not_blk head4 e.symm
  have outer5 := outer4.fr f5 (g3.inb y my).2.symm
  have m45 := m4.fr f5 hbxy
  refine load_int head5 rfl ?_
  refine store_intro head5 (by simp) rfl fun w6 b6 f6 z6 => ?_
  rw [addI_i64 (by omega) (by omega)] at b6
  have hne : ∀ {b l}, MapB w5 b kI l → ¬ b = gb := fun hm e => hm.not_blk head5 e
  refine hk w6 ⟨bo, blk, ?_⟩ (gs_trans f13 (gs_trans (gs_map ix3 (g3.inb x mx).1 f4) (gs_trans (gs_map iy4 (g3.inb y my).1 f5) (gs_blk head5 (by decide) g.gbl f6))))
  refine ⟨g.gbl, g.bol, ?_, outer5.fr f6 (hne outer5), fun v hv => ?_, g.inb, g.inj⟩
  · have : ((link (addV (addV s x) y) x y).e : Int) = ((addV (addV s x) y).e : Int) + 1 := by simp [link]
    rw [this]; exact b6
  · simp only [link] at hv ⊢
    rw [nbe]
    by_cases hvx : v = x
    · subst hvx
      rw [if_pos rfl, List.map_append]; exact m45.fr f6 (hne m45)
    · rw [if_neg hvx]
      by_cases hvy : v = y
      · subst hvy
        rw [if_pos rfl, List.map_append]; exact m5.fr f6 (hne m5)
      · rw [if_neg hvy]
        have i3 := g3.inner v hv
        rw [nbe] at i3
        have i5 := (i3.fr f4 fun e => hvx (g.inj v hv x mx e)).fr f5 fun e => hvy (g.inj v hv y my e)
        exact i5.fr f6 (hne i5)
end Go.Proofs.YtgmngfgpbjbgjaaDoor.E
