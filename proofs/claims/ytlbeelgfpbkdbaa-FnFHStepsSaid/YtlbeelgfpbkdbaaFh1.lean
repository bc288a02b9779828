/-
  Circular lists, plain and in memory; lists merged.
-/
import Derived.Test.YtlbeelgfpbkdbaaFnsA
import Derived.Test.YtlbeelgfpbkdbaaFlm
import Derived.Test.YtlbeelgfpbkdbaaFlt
import Derived.LaidEql
namespace Go.Proofs.Ytlbeelgfpbkdbaa.E
open Go
set_option linter.unusedSimpArgs false
set_option linter.unusedVariables false
set_option maxRecDepth 100000
set_option maxHeartbeats 4000000

def up {α : Type} (f : Nat → α) (b : Nat) (v : α) : Nat → α := fun x => if x = b then v else f x
@[simp] theorem up_same {α : Type} (f : Nat → α) (b : Nat) (v : α) : up f b v b = v := if_pos rfl
theorem up_ne {α : Type} (f : Nat → α) {b x : Nat} (v : α) (h : x ≠ b) : up f b v x = f x := if_neg h

/-! ## Chains and rings -/
/-- Each one is linked with the next one. -/
def Lk (nx pv : Nat → Nat) : List Nat → Prop
  | [] => True
  | [_] => True
  | x :: y :: t => (nx x = y ∧ pv y = x) ∧ Lk nx pv (y :: t)
section
variable {nx pv nx' pv' : Nat → Nat}
theorem lk_append : ∀ (A : List Nat) (x : Nat) (B : List Nat), Lk nx pv (A ++ x :: B) ↔ Lk nx pv (A ++ [x]) ∧ Lk nx pv (x :: B)
  | [], x, B => by simp [Lk]
  | [a], x, B => by simp [Lk]
  | a :: b :: A, x, B => by
    have := lk_append (b :: A) x B
    simp only [List.cons_append, Lk] at this ⊢
    rw [this]; simp only [and_assoc]
theorem lk_congr : ∀ {l : List Nat}, Lk nx pv l → (∀ x ∈ l.dropLast, nx' x = nx x) → (∀ y ∈ l.tail, pv' y = pv y) → Lk nx' pv' l
  | [], _, _, _ => trivial
  | [_], _, _, _ => trivial
  | x :: y :: t, ⟨⟨h1, h2⟩, h3⟩, hn, hp => by
    refine ⟨⟨by rw [hn x (by simp)]; exact h1, by rw [hp y (by simp)]; exact h2⟩, lk_congr h3 (fun z hz => hn z ?_) fun z hz => hp z ?_⟩
    · rw [List.dropLast_cons_of_ne_nil (by simp)]; exact List.mem_cons_of_mem _ hz
    · exact List.mem_cons_of_mem _ (by simpa using hz)
def Ring (nx pv : Nat → Nat) : List Nat → Prop
  | [] => True
  | a :: t => Lk nx pv (a :: (t ++ [a]))
theorem ring_rot {a : Nat} {t : List Nat} (h : Ring nx pv (a :: t)) : Ring nx pv (t ++ [a]) := by
  cases t with
  | nil => exact h
  | cons b t =>
    have h : Lk nx pv (a :: b :: (t ++ [a])) := h
    show Lk nx pv (b :: ((t ++ [a]) ++ [b]))
    rw [show b :: ((t ++ [a]) ++ [b]) = (b :: t) ++ a :: [b] by simp, lk_append]
    exact ⟨h.2, h.1, trivial⟩
theorem ring_swap : ∀ {A B : List Nat}, Ring nx pv (A ++ B) → Ring nx pv (B ++ A)
  | [], B, h => by simpa using h
  | a :: A, B, h => by
    have h1 : Ring nx pv (A ++ (B ++ [a])) := by have := ring_rot (a := a) (t := A ++ B) h; simpa using this
    have := ring_swap (A := A) h1
    simpa using this
theorem ring_congr {l : List Nat} (h : Ring nx pv l) (hn : ∀ x ∈ l, nx' x = nx x) (hp : ∀ x ∈ l, pv' x = pv x) : Ring nx' pv' l := by
  cases l with
  | nil => trivial
  | cons a t =>
    refine lk_congr (l := a :: (t ++ [a])) h (fun x hx => hn x ?_) fun x hx => hp x ?_
    · rw [show a :: (t ++ [a]) = (a :: t) ++ [a] by simp, List.dropLast_concat] at hx; exact hx
    · simp only [List.tail_cons, List.mem_append, List.mem_singleton] at hx
      rcases hx with hx | hx
      · exact List.mem_cons_of_mem _ hx
      · rw [hx]; exact List.mem_cons_self ..
/-- What comes behind the first one. -/
theorem ring_nx {a : Nat} {t : List Nat} (h : Ring nx pv (a :: t)) : nx a = (t ++ [a]).head (by simp) ∧ pv ((t ++ [a]).head (by simp)) = a := by
  cases t with
  | nil => exact h.1
  | cons b t => exact h.1
theorem ring_mem_nx {l : List Nat} (h : Ring nx pv l) {x : Nat} (hx : x ∈ l) : nx x ∈ l ∧ pv x ∈ l := by
  obtain ⟨A, B, rfl⟩ := List.append_of_mem hx
  have h1 : Ring nx pv (x :: (B ++ A)) := ring_swap (A := A) (B := x :: B) h
  have hn := ring_nx h1
  have h2 := ring_rot h1
  have hpv : pv x ∈ A ++ x :: B := by
    have h3 : Lk nx pv ((x :: (B ++ A)) ++ [x]) := h1
    rcases List.eq_nil_or_concat (B ++ A) with h4 | ⟨C, y, h4⟩
    · rw [h4] at h3
      have : pv x = x := h3.1.2
      rw [this]; simp
    · rw [List.concat_eq_append] at h4
      rw [h4, show (x :: (C ++ [y])) ++ [x] = (x :: C) ++ y :: [x] by simp, lk_append] at h3
      rw [h3.2.1.2]
      have : y ∈ B ++ A := by rw [h4]; simp
      simp only [List.mem_append, List.mem_cons] at this ⊢
      rcases this with h | h
      · exact .inr (.inr h)
      · exact .inl h
  refine ⟨?_, hpv⟩
  rw [hn.1]
  have : (B ++ A ++ [x]).head (by simp) ∈ B ++ A ++ [x] := List.head_mem _
  simp only [List.mem_append, List.mem_cons, List.not_mem_nil, or_false] at this ⊢
  rcases this with (h | h) | h
  · exact .inr (.inr h)
  · exact .inl h
  · exact .inr (.inl h)
/-- Two rings become one. -/
theorem ring_merge {a b : Nat} {t u : List Nat} (ha : Ring nx pv (a :: t)) (hb : Ring nx pv (b :: u)) (hnd : (a :: t ++ b :: u).Nodup) :
    Ring (up (up nx a (nx b)) b (nx a)) (up (up pv (nx b) a) (nx a) b) (a :: (u ++ b :: t)) := by
  have ha' : Lk nx pv (a :: (t ++ [a])) := ha
  have hb' : Lk nx pv (b :: (u ++ [b])) := hb
  obtain ⟨p, t', ht⟩ : ∃ p t', t ++ [a] = p :: t' := by cases t with | nil => exact ⟨_, _, rfl⟩ | cons x t => exact ⟨_, _, rfl⟩
  obtain ⟨q, u', hu⟩ : ∃ q u', u ++ [b] = q :: u' := by cases u with | nil => exact ⟨_, _, rfl⟩ | cons x u => exact ⟨_, _, rfl⟩
  rw [ht] at ha'
  rw [hu] at hb'
  obtain ⟨⟨a1, a2⟩, a3⟩ := ha'
  obtain ⟨⟨b1, b2⟩, b3⟩ := hb'
  rw [a1, b1]
  obtain ⟨n1, n2, n3⟩ := List.nodup_append.1 hnd
  have nt : (t ++ [a]).Nodup := (List.nodup_append.2 ⟨(List.nodup_cons.1 n1).2, by simp, fun x hx y hy => by simp at hy; subst hy; intro e; exact (List.nodup_cons.1 n1).1 (e ▸ hx)⟩)
  have nu : (u ++ [b]).Nodup := (List.nodup_append.2 ⟨(List.nodup_cons.1 n2).2, by simp, fun x hx y hy => by simp at hy; subst hy; intro e; exact (List.nodup_cons.1 n2).1 (e ▸ hx)⟩)
  have dis : ∀ x ∈ t ++ [a], ∀ y ∈ u ++ [b], x ≠ y := fun x hx y hy => n3 x (by simp only [List.mem_append, List.mem_singleton] at hx; simp only [List.mem_cons]; exact hx.symm) y (by simp only [List.mem_append, List.mem_singleton] at hy; simp only [List.mem_cons]; exact hy.symm)
  have hp : p ∈ t ++ [a] := by rw [ht]; simp
  have hq : q ∈ u ++ [b] := by rw [hu]; simp
  have hab : a ≠ b := dis a (by simp) b (by simp)
  show Lk _ _ (a :: ((u ++ b :: t) ++ [a]))
  rw [show a :: ((u ++ b :: t) ++ [a]) = a :: ((u ++ [b]) ++ (t ++ [a])) by simp, hu, ht]
  refine ⟨⟨?_, ?_⟩, ?_⟩
  · rw [up_ne _ _ hab, up_same]
  · rw [up_ne _ _ (dis p hp q hq).symm, up_same]
  · show Lk _ _ ((q :: u') ++ p :: t')
    rw [← hu, show (u ++ [b]) ++ p :: t' = u ++ b :: (p :: t') by simp, lk_append, hu]
    refine ⟨lk_congr b3 (fun x hx => ?_) fun y hy => ?_, ⟨up_same .., up_same ..⟩, lk_congr a3 (fun x hx => ?_) fun y hy => ?_⟩
    · rw [← hu, List.dropLast_concat] at hx
      have hxb : x ≠ b := fun e => (List.nodup_cons.1 n2).1 (e ▸ hx)
      have hxa : x ≠ a := fun e => dis a (by simp) x (List.mem_append_left _ hx) e.symm
      rw [up_ne _ _ hxb, up_ne _ _ hxa]
    · have hyu : y ∈ u ++ [b] := by rw [hu]; exact List.mem_cons_of_mem _ hy
      rw [hu] at nu
      have hyq : y ≠ q := fun e => (List.nodup_cons.1 nu).1 (e ▸ hy)
      rw [up_ne _ _ (dis p hp y hyu).symm, up_ne _ _ hyq]
    · rw [← ht, List.dropLast_concat] at hx
      have hxa : x ≠ a := fun e => (List.nodup_cons.1 n1).1 (e ▸ hx)
      have hxb : x ≠ b := fun e => dis x (List.mem_append_left _ hx) b (by simp) e
      rw [up_ne _ _ hxb, up_ne _ _ hxa]
    · have hyt : y ∈ t ++ [a] := by rw [ht]; exact List.mem_cons_of_mem _ hy
      rw [ht] at nt
      have hyp : y ≠ p := fun e => (List.nodup_cons.1 nt).1 (e ▸ hy)
      rw [up_ne _ _ hyp, up_ne _ _ (dis y hyt q hq)]
/-- One goes out of a ring. -/
theorem ring_out {x : Nat} {t : List Nat} (h : Ring nx pv (x :: t)) (hnd : (x :: t).Nodup) (ht : t ≠ []) :
    Ring (up nx (pv x) (nx x)) (up pv (nx x) (pv x)) t ∧ nx x = t.head ht ∧ pv x = t.getLast ht := by
  obtain ⟨n1, n2⟩ := List.nodup_cons.1 hnd
  cases t with
  | nil => exact absurd rfl ht
  | cons q t' =>
    have h1 : Lk nx pv ((x :: (q :: t')) ++ [x]) := h
    obtain ⟨C, z, hz⟩ : ∃ C z, q :: t' = C ++ [z] := by
      rcases List.eq_nil_or_concat (q :: t') with h | ⟨C, z, h⟩
      · cases h
      · exact ⟨C, z, by rw [h, List.concat_eq_append]⟩
    have hq : nx x = q ∧ pv q = x := h1.1
    have h2 := h1
    rw [hz, show (x :: (C ++ [z])) ++ [x] = (x :: C) ++ z :: [x] by simp, lk_append] at h2
    have hzx : nx z = x ∧ pv x = z := h2.2.1
    have hmid : Lk nx pv (q :: t') := by
      have h3 := h2.1
      rw [show (x :: C) ++ [z] = x :: (q :: t') by rw [hz]; simp] at h3
      exact h3.2
    have hlast : (q :: t').getLast (by simp) = z := by simp [hz]
    rw [hq.1, hzx.2]
    refine ⟨?_, rfl, hlast.symm⟩
    show Lk _ _ (q :: (t' ++ [q]))
    rw [show q :: (t' ++ [q]) = C ++ z :: [q] by rw [show q :: (t' ++ [q]) = (q :: t') ++ [q] by simp, hz]; simp, lk_append, ← hz]
    rw [hz] at n2
    refine ⟨lk_congr hmid (fun y hy => ?_) fun y hy => ?_, ⟨up_same .., up_same ..⟩, trivial⟩
    · rw [hz, List.dropLast_concat] at hy
      exact up_ne _ _ fun e => (List.nodup_append.1 n2).2.2 y hy z (by simp) e
    · rw [← hz] at n2
      exact up_ne _ _ fun e => (List.nodup_cons.1 n2).1 (by rw [← e]; exact hy)
end

/-! ## Nodes in memory -/
structure St where
  nx : Nat → Nat
  pv : Nat → Nat
  ch : Nat → Option Nat
  pa : Nat → Option Nat
  dg : Nat → Nat
  mkd : Nat → Bool
  pr : Nat → Int
def mA (b : Nat) : Addr := ⟨b, 0, none⟩
def oA (o : Option Nat) : Option Addr := o.map mA
theorem oA_some (b : Nat) : oA (some b) = some ⟨b, 0, none⟩ := rfl
theorem oA_none : oA none = none := rfl
theorem oA_isNone (o : Option Nat) : (oA o).isNone = o.isNone := by cases o <;> rfl
theorem oA_inj {o p : Option Nat} : oA o = oA p ↔ o = p := by
  cases o <;> cases p <;> simp [oA, mA]
def ndc (s : St) (b : Nat) : List Value := [.int .i64 (s.dg b : Nat), .bool (s.mkd b), .pointer (some ⟨s.nx b, 0, none⟩), .pointer (some ⟨s.pv b, 0, none⟩), .pointer (oA (s.ch b)), .pointer (oA (s.pa b)), .float .f64 (fB (s.pr b))]
def MS (w : World) (D : List Nat) (s : St) : Prop := ∀ b ∈ D, Blk w b 69 (ndc s b)
theorem MS.fr {S : Nat → Prop} {w w' : World} {D : List Nat} {s : St} (h : MS w D s) (f : Fr S w w') (hS : ∀ b ∈ D, ¬ S b) : MS w' D s := fun b hb => (h b hb).fr f (hS b hb)
theorem MS.fr0 {w w' : World} {D : List Nat} {s : St} (h : MS w D s) (f : Fr (fun _ => False) w w') : MS w' D s := h.fr f fun _ _ h => h
theorem MS.lt {w : World} {D : List Nat} {s : St} (h : MS w D s) {b : Nat} (hb : b ∈ D) : b < w.heap.size := (h b hb).lt
section
variable {w : World} {D : List Nat} {s : St} {b : Nat}
theorem ms_set {K : W} {i : Nat} {v : Value} {s' : St} (h : MS w D s) (hb : b ∈ D) (hi : i < 7) (hv : oneC v = true) (h1 : (ndc s b).set i v = ndc s' b) (h2 : ∀ x, x ≠ b → ndc s' x = ndc s x)
    (hk : ∀ w', MS w' D s' → Fr (fun x => x = b) w w' → w'.heap.size = w.heap.size → K w') : Store1 ⟨b, i, none⟩ v K w :=
  store_intro (h b hb) (by simpa [ndc] using hi) hv fun w' b' f z => hk w' (fun x hx => by
    by_cases e : x = b
    · subst e; rw [← h1]; exact b'
    · rw [h2 x e]; exact (h x hx).fr f e) f z
theorem ndc_ne {s : St} {x b : Nat} (h : x ≠ b) :
    (∀ v, ndc { s with dg := up s.dg b v } x = ndc s x) ∧ (∀ v, ndc { s with mkd := up s.mkd b v } x = ndc s x) ∧ (∀ v, ndc { s with nx := up s.nx b v } x = ndc s x) ∧ (∀ v, ndc { s with pv := up s.pv b v } x = ndc s x) ∧ (∀ v, ndc { s with ch := up s.ch b v } x = ndc s x) ∧ (∀ v, ndc { s with pa := up s.pa b v } x = ndc s x) ∧ (∀ v, ndc { s with pr := up s.pr b v } x = ndc s x) := by
  simp [ndc, up_ne _ _ h]
theorem st_dg {K : W} {v : Nat} (h : MS w D s) (hb : b ∈ D) (hk : ∀ w', MS w' D { s with dg := up s.dg b v } → Fr (fun x => x = b) w w' → w'.heap.size = w.heap.size → K w') : Store1 ⟨b, 0, none⟩ (.int .i64 (v : Nat)) K w :=
  ms_set (i := 0) h hb (by omega) rfl (by simp [ndc]) (fun x hx => (ndc_ne hx).1 v) hk
theorem st_mk {K : W} {v : Bool} (h : MS w D s) (hb : b ∈ D) (hk : ∀ w', MS w' D { s with mkd := up s.mkd b v } → Fr (fun x => x = b) w w' → w'.heap.size = w.heap.size → K w') : Store1 ((⟨b, 0, none⟩ : Addr).add 1) (.bool v) K w :=
  ms_set (i := 1) h hb (by omega) rfl (by simp [ndc]) (fun x hx => (ndc_ne hx).2.1 v) hk
theorem st_nx {K : W} {v : Nat} (h : MS w D s) (hb : b ∈ D) (hk : ∀ w', MS w' D { s with nx := up s.nx b v } → Fr (fun x => x = b) w w' → w'.heap.size = w.heap.size → K w') : Store1 ((⟨b, 0, none⟩ : Addr).add 2) (.pointer (some ⟨v, 0, none⟩)) K w :=
  ms_set (i := 2) h hb (by omega) rfl (by simp [ndc]) (fun x hx => (ndc_ne hx).2.2.1 v) hk
theorem st_pv {K : W} {v : Nat} (h : MS w D s) (hb : b ∈ D) (hk : ∀ w', MS w' D { s with pv := up s.pv b v } → Fr (fun x => x = b) w w' → w'.heap.size = w.heap.size → K w') : Store1 ((⟨b, 0, none⟩ : Addr).add 3) (.pointer (some ⟨v, 0, none⟩)) K w :=
  ms_set (i := 3) h hb (by omega) rfl (by simp [ndc]) (fun x hx => (ndc_ne hx).2.2.2.1 v) hk
theorem st_ch {K : W} {v : Option Nat} (h : MS w D s) (hb : b ∈ D) (hk : ∀ w', MS w' D { s with ch := up s.ch b v } → Fr (fun x => x = b) w w' → w'.heap.size = w.heap.size → K w') : Store1 ((⟨b, 0, none⟩ : Addr).add 4) (.pointer (oA v)) K w :=
  ms_set (i := 4) h hb (by omega) rfl (by simp [ndc]) (fun x hx => (ndc_ne hx).2.2.2.2.1 v) hk
theorem st_pa {K : W} {v : Option Nat} (h : MS w D s) (hb : b ∈ D) (hk : ∀ w', MS w' D { s with pa := up s.pa b v } → Fr (fun x => x = b) w w' → w'.heap.size = w.heap.size → K w') : Store1 ((⟨b, 0, none⟩ : Addr).add 5) (.pointer (oA v)) K w :=
  ms_set (i := 5) h hb (by omega) rfl (by simp [ndc]) (fun x hx => (ndc_ne hx).2.2.2.2.2.1 v) hk
theorem st_pr {K : W} {v : Int} (h : MS w D s) (hb : b ∈ D) (hk : ∀ w', MS w' D { s with pr := up s.pr b v } → Fr (fun x => x = b) w w' → w'.heap.size = w.heap.size → K w') : Store1 ((⟨b, 0, none⟩ : Addr).add 6) (.float .f64 (fB v)) K w :=
  ms_set (i := 6) h hb (by omega) rfl (by simp [ndc]) (fun x hx => (ndc_ne hx).2.2.2.2.2.2 v) hk
theorem ld_dg {K : Int → W} (h : MS w D s) (hb : b ∈ D) (hk : K (s.dg b : Nat) w) : LoadT (.int .i64) ⟨b, 0, none⟩ K w := load_int (i := 0) (h b hb) rfl hk
theorem ld_mk {K : Bool → W} (h : MS w D s) (hb : b ∈ D) (hk : K (s.mkd b) w) : LoadT .bool ((⟨b, 0, none⟩ : Addr).add 1) K w := load_bool (i := 1) (h b hb) rfl hk
theorem ld_nx {K : Option Addr → W} (h : MS w D s) (hb : b ∈ D) (hk : K (some ⟨s.nx b, 0, none⟩) w) : LoadT .ptr ((⟨b, 0, none⟩ : Addr).add 2) K w := load_ptr (i := 2) (h b hb) rfl hk
theorem ld_pv {K : Option Addr → W} (h : MS w D s) (hb : b ∈ D) (hk : K (some ⟨s.pv b, 0, none⟩) w) : LoadT .ptr ((⟨b, 0, none⟩ : Addr).add 3) K w := load_ptr (i := 3) (h b hb) rfl hk
theorem ld_ch {K : Option Addr → W} (h : MS w D s) (hb : b ∈ D) (hk : K (oA (s.ch b)) w) : LoadT .ptr ((⟨b, 0, none⟩ : Addr).add 4) K w := load_ptr (i := 4) (h b hb) rfl hk
theorem ld_pa {K : Option Addr → W} (h : MS w D s) (hb : b ∈ D) (hk : K (oA (s.pa b)) w) : LoadT .ptr ((⟨b, 0, none⟩ : Addr).add 5) K w := load_ptr (i := 5) (h b hb) rfl hk
theorem ld_pr {K : Nat → W} (h : MS w D s) (hb : b ∈ D) (hk : K (fB (s.pr b)) w) : LoadT (.float .f64) ((⟨b, 0, none⟩ : Addr).add 6) K w :=
  LoadT_float.2 ⟨_, by show w.cell? ⟨b, 6, none⟩ = _; rw [(h b hb).cell]; rfl, hk⟩
end

/-! ## Pointers and floats compared -/
def Known (w : World) (x : Option Addr) : Prop := x = none ∨ ∃ b t vs, x = some ⟨b, 0, none⟩ ∧ Blk w b t vs
theorem und42 : Try.prog.underlying 42 = some (.pointer 69) := by kernel_rfl
theorem size69 (w : World) : (sizeOf 69).run Try.prog w = .ok 7 w := by kernel_rfl
theorem run_ptrs {x y : Option Addr} {w : World} (hx : Known w x) (hy : Known w y) : (Op.equal 42 (.pointer x) (.pointer y)).run Try.prog w = .ok (decide (x = y)) w := by
  show (Op.equalIn (9999 + 1) 42 _ _).run _ w = _
  unfold Op.equalIn
  rcases hx with rfl | ⟨b, t, vs, rfl, hb⟩
  · rcases hy with rfl | ⟨c, t, vs, rfl, hc⟩
    · simp [run_underlying und42]
    · simp [run_underlying und42]
  · rcases hy with rfl | ⟨c, t', vs', rfl, hc⟩
    · simp [run_underlying und42]
    · simp only [Sem.run_bind, run_underlying und42, Result.andThen_ok, size69]
      by_cases hbc : b = c
      · subst hbc
        simp [run_sameAddr_same]
      · have hne : (⟨b, 0, none⟩ : Addr) ≠ ⟨c, 0, none⟩ := fun h => by cases h; exact hbc rfl
        have := run_sameAddr_other (P := Try.prog) (w := w) hne hb hc
        simp [this, hbc]
theorem ptr_eql {x y : Option Addr} {a b : Operand} {K : Bool → W} {w : World} (hx : Known w x) (hy : Known w y) (hk : K (decide (x = y)) w) : RawS Try.prog (binS .eql 42 a b (.pointer x) (.pointer y)) (.s (.one .bool)) K w := by
  refine ⟨(decide (x = y), ()), ?_, hk⟩
  have := run_ptrs hx hy
  unfold binS
  rw [Sem.run_bind, run_guard_ptr]
  simp [binOp, this]
  rfl
theorem ptr_neq {x y : Option Addr} {a b : Operand} {K : Bool → W} {w : World} (hx : Known w x) (hy : Known w y) (hk : K (decide (x ≠ y)) w) : RawS Try.prog (binS .neq 42 a b (.pointer x) (.pointer y)) (.s (.one .bool)) K w := by
  refine ⟨(decide (x ≠ y), ()), ?_, hk⟩
  have := run_ptrs hx hy
  unfold binS
  rw [Sem.run_bind, run_guard_ptr]
  simp [binOp, this]
  rfl
theorem MS.known {w : World} {D : List Nat} {s : St} (h : MS w D s) {b : Nat} (hb : b ∈ D) : Known w (some ⟨b, 0, none⟩) := .inr ⟨b, _, _, rfl, h b hb⟩
theorem MS.knownO {w : World} {D : List Nat} {s : St} (h : MS w D s) {o : Option Nat} (hb : ∀ b, o = some b → b ∈ D) : Known w (oA o) := by
  cases o with
  | none => exact .inl rfl
  | some b => exact h.known (hb b rfl)
theorem ptr_iff {a b : Nat} : ((some ⟨a, 0, none⟩ : Option Addr) = some ⟨b, 0, none⟩) ↔ a = b := by simp
/-- A priority that floats tell exactly. -/
def Fit (n : Int) : Prop := n.natAbs < 9007199254740992
theorem guard_fl (op : BinOp) (x y : Operand) (a b : Nat) (w : World) : (eqGuard op 56 x y (.float .f64 a) (.float .f64 b)).run Try.prog w = .ok () w := by
  cases op <;> kernel_rfl
theorem fl_lss {x y : Operand} {a b : Int} {K : Bool → W} {w : World} (ha : Fit a) (hb : Fit b) (hk : K (decide (a < b)) w) : RawS Try.prog (binS .lss 56 x y (.float .f64 (fB a)) (.float .f64 (fB b))) (.s (.one .bool)) K w := by
  refine ⟨(decide (a < b), ()), ?_, hk⟩
  unfold binS
  rw [Sem.run_bind, guard_fl, Result.andThen_ok, binOp_float_cmp_lss, order_fB ha hb]
  have : (some (compare a b) == some Ordering.lt) = decide (a < b) := by
    by_cases h : a < b
    · rw [Int.compare_eq_lt.2 h, decide_eq_true h]; rfl
    · rw [decide_eq_false h]
      cases hc : compare a b with
      | lt => exact absurd (Int.compare_eq_lt.1 hc) h
      | eq => rfl
      | gt => rfl
  rw [this]; rfl
theorem fl_leq {x y : Operand} {a b : Int} {K : Bool → W} {w : World} (ha : Fit a) (hb : Fit b) (hk : K (decide (a ≤ b)) w) : RawS Try.prog (binS .leq 56 x y (.float .f64 (fB a)) (.float .f64 (fB b))) (.s (.one .bool)) K w := by
  refine ⟨(decide (a ≤ b), ()), ?_, hk⟩
  unfold binS
  rw [Sem.run_bind, guard_fl, Result.andThen_ok, binOp_float_cmp_leq, order_fB ha hb]
  have : (some (compare a b) == some Ordering.lt || some (compare a b) == some Ordering.eq) = decide (a ≤ b) := by
    rcases Int.lt_trichotomy a b with h | h | h
    · rw [Int.compare_eq_lt.2 h, decide_eq_true (by omega)]; rfl
    · rw [Int.compare_eq_eq.2 h, decide_eq_true (by omega)]; rfl
    · rw [Int.compare_eq_gt.2 h, decide_eq_false (by omega)]; rfl
  rw [this]; rfl
theorem fl_geq {x y : Operand} {a b : Int} {K : Bool → W} {w : World} (ha : Fit a) (hb : Fit b) (hk : K (decide (b ≤ a)) w) : RawS Try.prog (binS .geq 56 x y (.float .f64 (fB a)) (.float .f64 (fB b))) (.s (.one .bool)) K w := by
  refine ⟨(decide (b ≤ a), ()), ?_, hk⟩
  unfold binS
  rw [Sem.run_bind, guard_fl, Result.andThen_ok, binOp_float_cmp_geq, order_fB ha hb]
  have : (some (compare a b) == some Ordering.gt || some (compare a b) == some Ordering.eq) = decide (b ≤ a) := by
    rcases Int.lt_trichotomy a b with h | h | h
    · rw [Int.compare_eq_lt.2 h, decide_eq_false (by omega)]; rfl
    · rw [Int.compare_eq_eq.2 h, decide_eq_true (by omega)]; rfl
    · rw [Int.compare_eq_gt.2 h, decide_eq_true (by omega)]; rfl
  rw [this]; rfl

/-! ## Lists merged -/
theorem F26_none2 {k : Value → W} {w : World} {o : Option Addr} (hk : k (.pointer o) w) : F26 k o none w := by
  unfold F26 F26_J1 F26_J2
  cases o with
  | none => simpa using hk
  | some a => simpa using hk
theorem F26_none1 {k : Value → W} {w : World} {o : Option Addr} (hk : k (.pointer o) w) : F26 k none o w := by
  unfold F26 F26_J1 F26_J2 F26_J3
  cases o with
  | none => simpa using hk
  | some a => simpa using hk
theorem F26_both {k : Value → W} {w : World} {D : List Nat} {s : St} {a b : Nat} (h : MS w D s) (ha : a ∈ D) (hb : b ∈ D) (hna : s.nx a ∈ D) (hnb : s.nx b ∈ D) (fa : Fit (s.pr a)) (fb : Fit (s.pr b))
    (hk : ∀ w', MS w' D { s with nx := up (up s.nx a (s.nx b)) b (s.nx a), pv := up (up s.pv (s.nx b) a) (s.nx a) b } → Fr (fun x => x ∈ D) w w' → w'.heap.size = w.heap.size → k (.pointer (some ⟨if s.pr a < s.pr b then a else b, 0, none⟩)) w') : F26 k (some ⟨a, 0, none⟩) (some ⟨b, 0, none⟩) w := by
  unfold F26 F26_J1 F26_J2 F26_J3
  simp only [Option.isNone_some, Bool.not_false, BIf_true, BIf_false, NN_mk]
  refine ld_nx h ha (ld_nx h hb ?_)
  refine st_nx h ha fun w1 h1 f1 z1 => ?_
  refine ld_nx h1 ha ?_
  simp only [up_same, NN_mk]
  refine st_pv h1 hnb fun w2 h2 f2 z2 => ?_
  refine st_nx h2 hb fun w3 h3 f3 z3 => ?_
  refine ld_nx h3 hb ?_
  simp only [up_same, NN_mk]
  refine st_pv h3 hna fun w4 h4 f4 z4 => ?_
  refine drw_intro fun w5 f5 z5 => ?_
  have h5 := h4.fr0 f5
  refine ld_pr h5 ha (ld_pr h5 hb (fl_lss fa fb ?_))
  have f05 : Fr (fun x => x ∈ D) w w5 := ((((f1.mono fun x e => .inl (by have e : x = a := e; rw [e]; exact ha)).trans f2 fun x e => .inl (by have e : x = s.nx b := e; rw [e]; exact hnb)).trans f3 fun x e => .inl (by have e : x = b := e; rw [e]; exact hb)).trans f4 fun x e => .inl (by have e : x = s.nx a := e; rw [e]; exact hna)).trans f5 fun _ h => h.elim
  have hz : w5.heap.size = w.heap.size := by omega
  have := hk w5 h5 f05 hz
  by_cases hlt : s.pr a < s.pr b
  · rw [decide_eq_true hlt]; rw [if_pos hlt] at this; exact this
  · rw [decide_eq_false hlt]; rw [if_neg hlt] at this; exact this
/-- newEntry. -/
theorem F25_spec {k : Value → W} {w : World} {D : List Nat} {s : St} {p : Int} (h : MS w D s)
    (hk : ∀ b w', b = w.heap.size → MS w' (b :: D) { nx := up s.nx b b, pv := up s.pv b b, ch := up s.ch b none, pa := up s.pa b none, dg := up s.dg b 0, mkd := up s.mkd b false, pr := up s.pr b p } → Fr (fun _ => False) w w' → k (.pointer (some ⟨b, 0, none⟩)) w') : F25 k (fB p) w := by
  unfold F25
  refine new_intro fun n w1 e1 b1 f1 z1 => ?_
  refine store_intro (i := 0) b1 (by simp) rfl fun w2 b2 f2 z2 => ?_
  refine store_intro (i := 1) b2 (by simp) rfl fun w3 b3 f3 z3 => ?_
  refine store_intro (i := 4) b3 (by simp) rfl fun w4 b4 f4 z4 => ?_
  refine store_intro (i := 5) b4 (by simp) rfl fun w5 b5 f5 z5 => ?_
  refine store_intro (i := 2) b5 (by simp) rfl fun w6 b6 f6 z6 => ?_
  refine store_intro (i := 3) b6 (by simp) rfl fun w7 b7 f7 z7 => ?_
  refine store_intro (i := 6) b7 (by simp) rfl fun w8 b8 f8 z8 => ?_
  have f18 : Fr (fun x => x = n) w1 w8 := (((((f2.trans f3 fun x e => .inl e).trans f4 fun x e => .inl e).trans f5 fun x e => .inl e).trans f6 fun x e => .inl e).trans f7 fun x e => .inl e).trans f8 fun x e => .inl e
  have f08 : Fr (fun _ => False) w w8 := f1.trans f18 fun x e => .inr (by have e : x = n := e; omega)
  refine hk n w8 e1 (fun x hx => ?_) f08
  by_cases hxn : x = n
  · subst hxn
    have : ndc { nx := up s.nx x x, pv := up s.pv x x, ch := up s.ch x none, pa := up s.pa x none, dg := up s.dg x 0, mkd := up s.mkd x false, pr := up s.pr x p } x = [.int .i64 0, .bool false, .pointer (some ⟨x, 0, none⟩), .pointer (some ⟨x, 0, none⟩), .pointer none, .pointer none, .float .f64 (fB p)] := by simp [ndc, oA]
    rw [this]; exact b8
  · have hxD : x ∈ D := by simpa [hxn] using hx
    have : ndc { nx := up s.nx n n, pv := up s.pv n n, ch := up s.ch n none, pa := up s.pa n none, dg := up s.dg n 0, mkd := up s.mkd n false, pr := up s.pr n p } x = ndc s x := by simp [ndc, up_ne _ _ hxn]
    rw [this]
    exact (h x hxD).fr f08 id
end Go.Proofs.Ytlbeelgfpbkdbaa.E
