/-
  Skip lists: chains (plain), and nodes in memory.
-/
import Derived.Test.YtfokodpnoiilbaaGreatRec
import Derived.LaidEql
import Derived.Test.YtfokodpnoiilbaaGreatFnsA
namespace Go.Proofs.YtfokodpnoiilbaaGreat.E
open Go
set_option linter.unusedSimpArgs false
set_option linter.unusedVariables false
set_option maxRecDepth 100000
set_option maxHeartbeats 4000000

/-! ## Chains -/
def Path (g : Nat → Option Nat) : Nat → List Nat → Prop
  | x, [] => g x = none
  | x, y :: l => g x = some y ∧ Path g y l
def Lst : Nat → List Nat → Nat
  | h, [] => h
  | _, y :: l => Lst y l
theorem Lst_app : ∀ (h : Nat) (l : List Nat) (y : Nat), Lst h (l ++ [y]) = y
  | _, [], _ => rfl
  | _, x :: l, y => Lst_app x l y
theorem Lst_mem : ∀ (h : Nat) (l : List Nat), Lst h l ∈ h :: l
  | _, [] => List.mem_cons_self ..
  | _, x :: l => List.mem_cons_of_mem _ (Lst_mem x l)
theorem Path.at {g : Nat → Option Nat} {r : List Nat} : ∀ {h : Nat} {l : List Nat}, Path g h (l ++ r) → g (Lst h l) = r.head?
  | h, [], p => by
    cases r with
    | nil => exact p
    | cons y r => exact p.1
  | h, y :: l, p => Path.at (h := y) (l := l) p.2
theorem Path.congr {g g' : Nat → Option Nat} : ∀ {h : Nat} {l : List Nat}, Path g h l → (∀ y ∈ h :: l, g' y = g y) → Path g' h l
  | h, [], p, e => (e h (List.mem_cons_self ..)).trans p
  | h, y :: l, p, e => ⟨(e h (List.mem_cons_self ..)).trans p.1, p.2.congr fun z hz => e z (List.mem_cons_of_mem _ hz)⟩
theorem Path.put {g g' : Nat → Option Nat} {y : Nat} {r : List Nat} : ∀ {h : Nat} {l : List Nat}, Path g h (l ++ r) → (h :: (l ++ r)).Nodup → y ∉ h :: (l ++ r) → g' (Lst h l) = some y → g' y = r.head? →
    (∀ z, z ≠ y → z ≠ Lst h l → g' z = g z) → Path g' h (l ++ y :: r)
  | h, [], p, hn, hy, h1, h2, h3 => by
    refine ⟨h1, ?_⟩
    cases r with
    | nil => exact h2
    | cons z r =>
      refine ⟨h2, p.2.congr fun u hu => h3 u ?_ ?_⟩
      · rintro rfl; exact hy (List.mem_cons_of_mem _ hu)
      · rintro rfl; exact (List.nodup_cons.1 hn).1 hu
  | h, x :: l, p, hn, hy, h1, h2, h3 => by
    refine ⟨?_, Path.put p.2 (List.nodup_cons.1 hn).2 (fun hm => hy (List.mem_cons_of_mem _ hm)) h1 h2 h3⟩
    have hl : h ≠ Lst x l := fun e => (List.nodup_cons.1 hn).1 (by
      have := Lst_mem x l
      rw [← e] at this
      rcases List.mem_cons.1 this with h | h
      · rw [h]; exact List.mem_cons_self ..
      · exact List.mem_cons_of_mem _ (List.mem_append_left _ h))
    rw [h3 h (fun e => hy (e ▸ List.mem_cons_self ..)) hl]
    exact p.1
theorem Path.drop {g g' : Nat → Option Nat} {y : Nat} {r : List Nat} : ∀ {h : Nat} {l : List Nat}, Path g h (l ++ y :: r) → (h :: (l ++ y :: r)).Nodup → g' (Lst h l) = g y →
    (∀ z, z ≠ Lst h l → g' z = g z) → Path g' h (l ++ r)
  | h, [], p, hn, h1, h3 => by
    have h1 : g' h = g y := h1
    cases r with
    | nil => exact h1.trans p.2
    | cons z r =>
      refine ⟨h1.trans p.2.1, p.2.2.congr fun u hu => h3 u ?_⟩
      rintro rfl; exact (List.nodup_cons.1 hn).1 (List.mem_cons_of_mem _ hu)
  | h, x :: l, p, hn, h1, h3 => by
    refine ⟨?_, Path.drop p.2 (List.nodup_cons.1 hn).2 h1 h3⟩
    have hl : h ≠ Lst x l := fun e => (List.nodup_cons.1 hn).1 (by
      have := Lst_mem x l
      rw [← e] at this
      rcases List.mem_cons.1 this with h | h
      · rw [h]; exact List.mem_cons_self ..
      · exact List.mem_cons_of_mem _ (List.mem_append_left _ h))
    rw [h3 h hl]
    exact p.1
/-- What is behind in a part is behind in the whole. -/
theorem split_at {h : Nat} {l l' : List Nat} (hs : ∀ x ∈ l, x ∈ l') : ∃ a b, l' = a ++ b ∧ Lst h a = Lst h l ∧ Lst h l ∈ h :: a := by
  rcases List.mem_cons.1 (Lst_mem h l) with e | hm
  · exact ⟨[], l', rfl, by rw [e]; rfl, by rw [e]; exact List.mem_cons_self ..⟩
  · obtain ⟨a, b, e⟩ := List.append_of_mem (hs _ hm)
    exact ⟨a ++ [Lst h l], b, by rw [e]; simp, Lst_app _ _ _, by simp⟩
/-- Sorted by key: the lesser ones, and the others. -/
def lo (ky : Nat → Int) (k : Int) (l : List Nat) : List Nat := l.filter fun x => decide (ky x < k)
def hi (ky : Nat → Int) (k : Int) (l : List Nat) : List Nat := l.filter fun x => !decide (ky x < k)
def So (ky : Nat → Int) (l : List Nat) : Prop := l.Pairwise fun a b => ky a < ky b
theorem lo_hi {ky : Nat → Int} {k : Int} : ∀ {l : List Nat}, So ky l → l = lo ky k l ++ hi ky k l
  | [], _ => rfl
  | a :: l, s => by
    obtain ⟨h1, h2⟩ := List.pairwise_cons.1 s
    by_cases ha : ky a < k
    · have : lo ky k (a :: l) = a :: lo ky k l := by simp [lo, ha]
      rw [this, show hi ky k (a :: l) = hi ky k l by simp [hi, ha], List.cons_append, ← lo_hi h2]
    · have e : lo ky k (a :: l) = [] := by
        simp only [lo, List.filter_eq_nil_iff]
        intro x hx
        rcases List.mem_cons.1 hx with rfl | hx
        · simp [ha]
        · have := h1 x hx; simp; omega
      have e2 : hi ky k (a :: l) = a :: l := by
        simp only [hi, List.filter_eq_self]
        intro x hx
        rcases List.mem_cons.1 hx with rfl | hx
        · simp [ha]
        · have := h1 x hx; simp; omega
      rw [e, e2]; rfl
/-- Those with a greater height. -/
def lv (ht : Nat → Nat) (i : Nat) (l : List Nat) : List Nat := l.filter fun x => decide (i < ht x)
theorem mem_lv {ht : Nat → Nat} {i : Nat} {l : List Nat} {x : Nat} : x ∈ lv ht i l ↔ x ∈ l ∧ i < ht x := by simp [lv]
theorem mem_lo {ky : Nat → Int} {k : Int} {l : List Nat} {x : Nat} : x ∈ lo ky k l ↔ x ∈ l ∧ ky x < k := by simp [lo]
theorem mem_hi {ky : Nat → Int} {k : Int} {l : List Nat} {x : Nat} : x ∈ hi ky k l ↔ x ∈ l ∧ k ≤ ky x := by simp [hi]
theorem lv_app (ht : Nat → Nat) (i : Nat) (a b : List Nat) : lv ht i (a ++ b) = lv ht i a ++ lv ht i b := List.filter_append ..

/-! ## Memory -/
def oA (o : Option Nat) : Option Addr := o.map fun x => ⟨x, 0, none⟩
@[simp] theorem oA_some (x : Nat) : oA (some x) = some ⟨x, 0, none⟩ := rfl
@[simp] theorem oA_none : oA none = none := rfl
theorem oA_inj {x y : Option Nat} : oA x = oA y ↔ x = y := by
  cases x <;> cases y <;> simp [oA]
def up {α : Type} (f : Nat → α) (b : Nat) (v : α) : Nat → α := fun x => if x = b then v else f x
theorem up_same {α : Type} (f : Nat → α) (b : Nat) (v : α) : up f b v b = v := if_pos rfl
theorem up_ne {α : Type} (f : Nat → α) {b x : Nat} (v : α) (h : x ≠ b) : up f b v x = f x := if_neg h
def pts (n : Nat) (c : Nat → Option Nat) : List Value := (List.range n).map fun i => .pointer (oA (c i))
theorem pts_len (n : Nat) (c : Nat → Option Nat) : (pts n c).length = n := by simp [pts]
theorem pts_get {n i : Nat} (c : Nat → Option Nat) (hi : i < n) : (pts n c)[i]? = some (.pointer (oA (c i))) := by simp [pts, hi]
theorem pts_set {n i : Nat} (c : Nat → Option Nat) (hi : i < n) (v : Option Nat) : (pts n c).set i (.pointer (oA v)) = pts n (up c i v) := by
  apply List.ext_getElem?
  intro j
  rw [List.getElem?_set]
  by_cases hj : j < n
  · rw [pts_get _ hj, pts_len]
    by_cases h : i = j
    · subst h; rw [if_pos rfl, if_pos hi, pts_get _ hi, up_same]
    · rw [if_neg h, pts_get _ hj, up_ne _ _ (Ne.symm h)]
  · rw [List.getElem?_eq_none (by rw [pts_len]; omega), List.getElem?_eq_none (by rw [pts_len]; omega)]
    rw [if_neg (by omega)]
theorem pts_congr {n : Nat} {c c' : Nat → Option Nat} (h : ∀ i < n, c' i = c i) : pts n c' = pts n c := by
  unfold pts
  exact List.map_congr_left fun i hi => by rw [h i (List.mem_range.1 hi)]
/-- A block of widths: any numbers. -/
def Wd (w : World) (b n : Nat) : Prop := ∃ ws : List Int, ws.length = n ∧ Blk w b 29 (ws.map (Value.int .u64))
theorem Wd.fr {S : Nat → Prop} {w w' : World} {b n : Nat} (h : Wd w b n) (f : Fr S w w') (hS : ¬ S b) : Wd w' b n := by
  obtain ⟨ws, h1, h2⟩ := h
  exact ⟨ws, h1, h2.fr f hS⟩
theorem ldP {w : World} {b n i : Nat} {c : Nat → Option Nat} {k : Option Addr → W} (h : Blk w b 101 (pts n c)) (hi : i < n) (hk : k (oA (c i)) w) :
    NN (some ⟨b, 0, none⟩) (fun a => Req (0 ≤ ((i : Nat) : Int) ∧ ((i : Nat) : Int) < ((n : Nat) : Int)) (LoadT .ptr (a.add ((i : Nat) : Int).toNat) k)) w := by
  rw [NN_mk, Req_iff, Int.toNat_natCast, add_mk, Nat.zero_add]
  exact ⟨⟨by omega, by omega⟩, load_ptr h (pts_get c hi) hk⟩
theorem stP {w : World} {b n i : Nat} {c : Nat → Option Nat} {v : Option Nat} {k : W} (h : Blk w b 101 (pts n c)) (hi : i < n)
    (hk : ∀ w', Blk w' b 101 (pts n (up c i v)) → Fr (fun x => x = b) w w' → w'.heap.size = w.heap.size → k w') :
    NN (some ⟨b, 0, none⟩) (fun a => Req (0 ≤ ((i : Nat) : Int) ∧ ((i : Nat) : Int) < ((n : Nat) : Int)) (Store1 (a.add ((i : Nat) : Int).toNat) (.pointer (oA v)) k)) w := by
  rw [NN_mk, Req_iff, Int.toNat_natCast, add_mk, Nat.zero_add]
  refine ⟨⟨by omega, by omega⟩, store_intro h (by rw [pts_len]; exact hi) rfl fun w' b' f z => hk w' ?_ f z⟩
  rw [← pts_set c hi v]; exact b'
theorem ldW {w : World} {b n i : Nat} {k : Int → W} (h : Wd w b n) (hi : i < n) (hk : ∀ v, k v w) :
    NN (some ⟨b, 0, none⟩) (fun a => Req (0 ≤ ((i : Nat) : Int) ∧ ((i : Nat) : Int) < ((n : Nat) : Int)) (LoadT (.int .u64) (a.add ((i : Nat) : Int).toNat) k)) w := by
  obtain ⟨ws, rfl, h2⟩ := h
  rw [NN_mk, Req_iff, Int.toNat_natCast, add_mk, Nat.zero_add]
  exact ⟨⟨by omega, by omega⟩, load_int h2 (by rw [List.getElem?_map, List.getElem?_eq_getElem hi]; rfl) (hk _)⟩
theorem stW {w : World} {b n i : Nat} {v : Int} {k : W} (h : Wd w b n) (hi : i < n)
    (hk : ∀ w', (∀ b' m, Wd w b' m → Wd w' b' m) → Fr (fun x => x = b) w w' → w'.heap.size = w.heap.size → k w') :
    NN (some ⟨b, 0, none⟩) (fun a => Req (0 ≤ ((i : Nat) : Int) ∧ ((i : Nat) : Int) < ((n : Nat) : Int)) (Store1 (a.add ((i : Nat) : Int).toNat) (.int .u64 v) k)) w := by
  obtain ⟨ws, rfl, h2⟩ := h
  rw [NN_mk, Req_iff, Int.toNat_natCast, add_mk, Nat.zero_add]
  refine ⟨⟨by omega, by omega⟩, store_intro h2 (by simpa using hi) rfl fun w' b' f z => hk w' ?_ f z⟩
  rintro b1 m ⟨ws1, rfl, h3⟩
  by_cases e : b1 = b
  · subst e
    have h4 := (h3.unique h2).2
    have h5 : ws1.length = ws.length := by have := congrArg List.length h4; simpa using this
    exact ⟨ws.set i v, by simp [h5], by rw [List.map_set]; exact b'⟩
  · exact ⟨ws1, rfl, h3.fr f e⟩

/-- What the nodes are: where their parts lie, their heights, elements, followers. -/
structure G where
  fb : Nat → Nat
  wb : Nat → Nat
  ht : Nat → Nat
  en : Nat → Value
  f : Nat → Nat → Option Nat
def G.setF (g : G) (x i : Nat) (v : Option Nat) : G := { g with f := up g.f x (up (g.f x) i v) }
structure ND (w : World) (g : G) (x : Nat) : Prop where
  a : Blk w x 117 [.slice (some ⟨g.fb x, 0, none⟩) (g.ht x) (g.ht x), .slice (some ⟨g.wb x, 0, none⟩) (g.ht x) (g.ht x), g.en x]
  f : Blk w (g.fb x) 101 (pts (g.ht x) (g.f x))
  v : Wd w (g.wb x) (g.ht x)
theorem ND.fr {S : Nat → Prop} {w w' : World} {g : G} {x : Nat} (h : ND w g x) (f : Fr S w w') (h1 : ¬ S x) (h2 : ¬ S (g.fb x)) (h3 : ¬ S (g.wb x)) : ND w' g x :=
  ⟨h.a.fr f h1, h.f.fr f h2, h.v.fr f h3⟩
structure MS (w : World) (N : List Nat) (g : G) : Prop where
  n : ∀ x ∈ N, ND w g x
  inj : ∀ x ∈ N, ∀ y ∈ N, g.fb x = g.fb y → x = y
/-- Blocks of other types are no blocks of nodes. -/
theorem MS.fr_ty {S : Nat → Prop} {w w' : World} {N : List Nat} {g : G} (h : MS w N g) (f : Fr S w w') {ts : List TypeId} (hT : Tys S w ts) (ht : ∀ u ∈ ts, u ≠ 117 ∧ u ≠ 101 ∧ u ≠ 29) : MS w' N g :=
  ⟨fun x hx => (h.n x hx).fr f (fun hs => (ht _ (hT _ _ _ hs (h.n x hx).a)).1 rfl) (fun hs => (ht _ (hT _ _ _ hs (h.n x hx).f)).2.1 rfl)
    (fun hs => by obtain ⟨ws, _, hb⟩ := (h.n x hx).v; exact (ht _ (hT _ _ _ hs hb)).2.2 rfl), h.inj⟩
theorem MS.fr0 {w w' : World} {N : List Nat} {g : G} (h : MS w N g) (f : Fr (fun _ => False) w w') : MS w' N g :=
  ⟨fun x hx => (h.n x hx).fr f id id id, h.inj⟩
theorem MS.fr {S : Nat → Prop} {w w' : World} {N : List Nat} {g : G} (h : MS w N g) (f : Fr S w w') (hS : ∀ x ∈ N, ¬ S x ∧ ¬ S (g.fb x) ∧ ¬ S (g.wb x)) : MS w' N g :=
  ⟨fun x hx => (h.n x hx).fr f (hS x hx).1 (hS x hx).2.1 (hS x hx).2.2, h.inj⟩
/-- A follower is set. -/
theorem MS.setF {w w' : World} {N : List Nat} {g : G} (h : MS w N g) {x i : Nat} {v : Option Nat} (hx : x ∈ N) (b : Blk w' (g.fb x) 101 (pts (g.ht x) (up (g.f x) i v))) (f : Fr (fun b => b = g.fb x) w w') : MS w' N (g.setF x i v) := by
  refine ⟨fun y hy => ?_, h.inj⟩
  have hb := (h.n x hx).f
  have n1 : ∀ z ∈ N, z ≠ g.fb x := fun z hz e => by
    have := (h.n z hz).a
    rw [e] at this
    exact absurd (this.unique hb).1 (by decide)
  refine ⟨(h.n y hy).a.fr f (n1 y hy), ?_, (h.n y hy).v.fr f ?_⟩
  · by_cases e : y = x
    · subst e; simp only [G.setF, up_same]; exact b
    · simp only [G.setF, up_ne _ _ e]
      exact (h.n y hy).f.fr f fun e' => e (h.inj y hy x hx e')
  · intro e
    obtain ⟨ws, _, hw⟩ := (h.n y hy).v
    have e : g.wb y = g.fb x := e
    rw [e] at hw
    exact absurd (hw.unique hb).1 (by decide)
/-- A width is set. -/
theorem MS.setW {w w' : World} {N : List Nat} {g : G} (h : MS w N g) {b n : Nat} (hw : Wd w b n) (e : ∀ b' m, Wd w b' m → Wd w' b' m) (f : Fr (fun x => x = b) w w') : MS w' N g := by
  obtain ⟨ws, _, hw⟩ := hw
  refine ⟨fun y hy => ⟨(h.n y hy).a.fr f ?_, (h.n y hy).f.fr f ?_, e _ _ (h.n y hy).v⟩, h.inj⟩
  · intro e; have := (h.n y hy).a; rw [show y = b from e] at this; exact absurd (this.unique hw).1 (by decide)
  · intro e; have := (h.n y hy).f; rw [show g.fb y = b from e] at this; exact absurd (this.unique hw).1 (by decide)
/-- An element is set. -/
theorem MS.setE {w w' : World} {N : List Nat} {g : G} (h : MS w N g) {x : Nat} {v : Value} (hx : x ∈ N)
    (b : Blk w' x 117 [.slice (some ⟨g.fb x, 0, none⟩) (g.ht x) (g.ht x), .slice (some ⟨g.wb x, 0, none⟩) (g.ht x) (g.ht x), v]) (f : Fr (fun b => b = x) w w') : MS w' N { g with en := up g.en x v } := by
  refine ⟨fun y hy => ⟨?_, (h.n y hy).f.fr f ?_, (h.n y hy).v.fr f ?_⟩, h.inj⟩
  · by_cases e : y = x
    · subst e; simp only [up_same]; exact b
    · simp only [up_ne _ _ e]; exact (h.n y hy).a.fr f e
  · intro e; have := (h.n y hy).f; rw [show g.fb y = x from e] at this; exact absurd (this.unique (h.n x hx).a).1 (by decide)
  · intro e; obtain ⟨ws, _, hw⟩ := (h.n y hy).v; rw [show g.wb y = x from e] at hw; exact absurd (hw.unique (h.n x hx).a).1 (by decide)

/-! ## Pointers compared -/
def Known (w : World) (x : Option Addr) : Prop := x = none ∨ ∃ b t vs, x = some ⟨b, 0, none⟩ ∧ Blk w b t vs
theorem und100 : Tryz.prog.underlying 101 = some (.pointer 117) := by kernel_rfl
theorem size165 (w : World) : (sizeOf 117).run Tryz.prog w = .ok 3 w := by kernel_rfl
theorem run_ptrs {x y : Option Addr} {w : World} (hx : Known w x) (hy : Known w y) : (Op.equal 101 (.pointer x) (.pointer y)).run Tryz.prog w = .ok (decide (x = y)) w := by
  show (Op.equalIn (9999 + 1) 101 _ _).run _ w = _
  unfold Op.equalIn
  rcases hx with rfl | ⟨b, t, vs, rfl, hb⟩
  · rcases hy with rfl | ⟨c, t, vs, rfl, hc⟩
    · simp [run_underlying und100]
    · simp [run_underlying und100]
  · rcases hy with rfl | ⟨c, t', vs', rfl, hc⟩
    · simp [run_underlying und100]
    · simp only [Sem.run_bind, run_underlying und100, Result.andThen_ok, size165]
      by_cases hbc : b = c
      · subst hbc
        simp [run_sameAddr_same]
      · have hne : (⟨b, 0, none⟩ : Addr) ≠ ⟨c, 0, none⟩ := fun h => by cases h; exact hbc rfl
        have := run_sameAddr_other (P := Tryz.prog) (w := w) hne hb hc
        simp [this, hbc]
theorem ptr_neq {x y : Option Addr} {a b : Operand} {K : Bool → W} {w : World} (hx : Known w x) (hy : Known w y) (hk : K (decide (x ≠ y)) w) : RawS Tryz.prog (binS .neq 101 a b (.pointer x) (.pointer y)) (.s (.one .bool)) K w := by
  refine ⟨(decide (x ≠ y), ()), ?_, hk⟩
  have := run_ptrs hx hy
  unfold binS
  rw [Sem.run_bind, run_guard_ptr]
  simp [binOp, this]
  rfl
theorem MS.known {w : World} {N : List Nat} {g : G} (h : MS w N g) {o : Option Nat} (ho : ∀ x, o = some x → x ∈ N) : Known w (oA o) := by
  cases o with
  | none => exact .inl rfl
  | some x => exact .inr ⟨_, _, _, rfl, (h.n x (ho x rfl)).a⟩

/-! ## Keys compared -/
def ordI (a b : Int) : Int := if a < b then -1 else if b < a then 1 else 0
def CmpOk (key : Value → Int) (S : Nat → Prop) (w : World) (es : List Value) (q : Value) (k : Int) : Prop :=
  ∀ w', Fr S w w' → ∀ e ∈ es, ∀ f : Int → W, (∀ w'', Fr (fun _ => False) w' w'' → f (ordI (key e) k) w'') → NextT Tryz.prog (callMethod e "Compare" [q].toArray) (.s (.one (.int .i64))) f w'
theorem F72_spec {key : Value → Int} {S : Nat → Prop} {w0 w : World} {g : G} {x : Nat} {q : Value} {kq : Int} {es : List Value} {k : Value → W} (hn : ND w g x) (hC : CmpOk key S w0 es q kq) (hf : Fr S w0 w) (he : g.en x ∈ es)
    (hk : ∀ w', Fr (fun _ => False) w w' → k (.int .i64 (ordI (key (g.en x)) kq)) w') : F72 k (some ⟨x, 0, none⟩) q w := by
  unfold F72
  rw [NN_mk]
  refine load_any (i := 2) hn.a rfl ?_
  exact hC w hf _ he _ hk

/-- A skip list in memory. -/
structure SLn (key : Value → Int) (w : World) (sl num : Nat) (ns : List Nat) (g : G) (M L h cb pb : Nat) (d : Int) (c : Nat → Option Nat) : Prop where
  hd : Blk w sl 107 [.int .u8 (M : Nat), .int .u8 (L : Nat), .pointer (some ⟨h, 0, none⟩), .int .u64 (num : Nat), .slice (some ⟨cb, 0, none⟩) M M, .slice (some ⟨pb, 0, none⟩) M M, .int .u64 d]
  ca : Blk w cb 101 (pts M c)
  pw : Wd w pb M
  ms : MS w (h :: ns) g
  nd : (h :: ns).Nodup
  ne : ∀ x ∈ h :: ns, g.fb x ≠ cb
  hh : g.ht h = M
  M8 : 8 ≤ M
  M64 : M ≤ 64
  L1 : L < M
  ht : ∀ x ∈ ns, 1 ≤ g.ht x ∧ g.ht x ≤ L
  pa : ∀ i, i < M → Path (fun x => g.f x i) h (lv g.ht i ns)
  so : So (fun x => key (g.en x)) ns
  c0 : ns = [] → ∀ i, i < L → c i = some h
abbrev SLm (key : Value → Int) (w : World) (sl : Nat) (ns : List Nat) (g : G) (M L h cb pb : Nat) (d : Int) (c : Nat → Option Nat) : Prop := SLn key w sl ns.length ns g M L h cb pb d c
end Go.Proofs.YtfokodpnoiilbaaGreat.E
