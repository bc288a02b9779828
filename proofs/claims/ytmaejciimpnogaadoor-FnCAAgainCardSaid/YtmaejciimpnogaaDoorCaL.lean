/-
  The library's doubly linked lists (container/list) in memory.
-/
import Derived.Test.YtmaejciimpnogaaDoorFnsB
import Derived.Test.YtmaejciimpnogaaDoorMap
import Derived.Test.YtmaejciimpnogaaDoorRec
import Derived.Test.YtmaejciimpnogaaDoorWide
import Derived.Test.YtmaejciimpnogaaDoorArith
import Derived.LaidEql
namespace Go.Proofs.YtmaejciimpnogaaDoor.E
open Go
set_option linter.unusedSimpArgs false
set_option linter.unusedVariables false
set_option maxRecDepth 100000
set_option maxHeartbeats 4000000

/-! ## Plain: rings -/
def up (f : Nat → Nat) (a b : Nat) : Nat → Nat := fun x => if x = a then b else f x
theorem up_same (f : Nat → Nat) (a b : Nat) : up f a b a = b := by simp [up]
theorem up_ne {f : Nat → Nat} {a b x : Nat} (h : x ≠ a) : up f a b x = f x := by simp [up, h]
def Lk (nx pv : Nat → Nat) : List Nat → Prop
  | a :: b :: l => (nx a = b ∧ pv b = a) ∧ Lk nx pv (b :: l)
  | _ => True
theorem Lk.split {nx pv : Nat → Nat} : ∀ (xs : List Nat) (a : Nat) (ys : List Nat), Lk nx pv (xs ++ a :: ys) ↔ Lk nx pv (xs ++ [a]) ∧ Lk nx pv (a :: ys)
  | [], a, ys => by simp [Lk]
  | [x], a, ys => by simp [Lk]
  | x :: y :: xs, a, ys => by
    have ih := Lk.split (nx := nx) (pv := pv) (y :: xs) a ys
    simp only [List.cons_append] at ih ⊢
    simp only [Lk]
    rw [ih]; exact and_assoc.symm
theorem Lk.frame {nx pv nx' pv' : Nat → Nat} : ∀ {c : List Nat}, Lk nx pv c → (∀ a ∈ c.dropLast, nx' a = nx a) → (∀ b ∈ c.tail, pv' b = pv b) → Lk nx' pv' c
  | [], _, _, _ => trivial
  | [_], _, _, _ => trivial
  | a :: b :: l, h, h1, h2 => by
    obtain ⟨⟨e1, e2⟩, h⟩ := h
    refine ⟨⟨by rw [h1 a (by simp [List.dropLast]), e1], by rw [h2 b (by simp), e2]⟩, Lk.frame h (fun x hx => h1 x ?_) (fun x hx => h2 x ?_)⟩
    · simp only [List.dropLast]; exact List.mem_cons_of_mem _ hx
    · simp only [List.tail_cons] at hx ⊢; exact List.mem_cons_of_mem _ hx
def Ring (nx pv : Nat → Nat) (lb : Nat) (es : List Nat) : Prop := Lk nx pv (lb :: es ++ [lb]) ∧ (lb :: es).Nodup
theorem ring_insert {nx pv : Nat → Nat} {lb e : Nat} {es : List Nat} (h : Ring nx pv lb es) (he : e ∉ lb :: es) :
    Ring (up (up nx e (nx lb)) lb e) (up (up pv e lb) (nx lb) e) lb (e :: es) ∧ nx lb ∈ lb :: es := by
  obtain ⟨h, hn⟩ := h
  have hne : e ≠ lb := fun x => he (by simp [x])
  have hees : e ∉ es := fun x => he (by simp [x])
  have key : ∀ (n : Nat) (B : List Nat), es ++ [lb] = n :: B → nx lb = n ∧ Lk nx pv (n :: B) := fun n B e' => by
    have : lb :: es ++ [lb] = lb :: n :: B := by rw [List.cons_append, e']
    rw [this] at h
    exact ⟨h.1.1, h.2⟩
  obtain ⟨n, B, hB⟩ : ∃ n B, es ++ [lb] = n :: B := by
    cases es with
    | nil => exact ⟨lb, [], rfl⟩
    | cons a es => exact ⟨a, es ++ [lb], rfl⟩
  obtain ⟨k1, k2⟩ := key n B hB
  have hnm : n ∈ es ++ [lb] := by rw [hB]; simp
  have hnn : n ≠ e := fun x => by
    rw [x] at hnm
    rcases List.mem_append.1 hnm with h | h
    · exact hees h
    · simp at h; exact hne h
  have hnd : (es ++ [lb]).Nodup := by
    rw [List.nodup_append]
    have := List.nodup_cons.1 hn
    refine ⟨this.2, by simp, fun a ha b hb => ?_⟩
    simp at hb; subst hb
    intro e'; subst e'; exact this.1 ha
  rw [hB] at hnd
  have hndc := List.nodup_cons.1 hnd
  refine ⟨⟨?_, ?_⟩, ?_⟩
  · have : lb :: e :: es ++ [lb] = lb :: e :: n :: B := by rw [List.cons_append, List.cons_append, hB]
    rw [this, k1]
    refine ⟨⟨up_same _ _ _, by rw [up_ne (Ne.symm hnn), up_same]⟩, ⟨by rw [up_ne hne, up_same], up_same _ _ _⟩, k2.frame (fun a ha => ?_) fun b hb => ?_⟩
    · have ha' : a ∈ es := by rw [← hB] at ha; simpa using ha
      rw [up_ne (fun x : a = lb => (List.nodup_cons.1 hn).1 (x ▸ ha')), up_ne (fun x : a = e => hees (x ▸ ha'))]
    · simp only [List.tail_cons] at hb
      have hbm : b ∈ es ++ [lb] := by rw [hB]; simp [hb]
      rw [up_ne (fun x : b = n => hndc.1 (x ▸ hb)), up_ne fun x : b = e => ?_]
      rw [x] at hbm
      rcases List.mem_append.1 hbm with h | h
      · exact hees h
      · simp at h; exact hne h
  · have := List.nodup_cons.1 hn
    refine List.nodup_cons.2 ⟨fun x => ?_, List.nodup_cons.2 ⟨hees, this.2⟩⟩
    rcases List.mem_cons.1 x with h | h
    · exact hne h.symm
    · exact this.1 h
  · rw [k1]
    rcases List.mem_append.1 hnm with h | h
    · exact List.mem_cons_of_mem _ h
    · simp at h; simp [h]
theorem ring_remove {nx pv : Nat → Nat} {lb e : Nat} {xs ys : List Nat} (h : Ring nx pv lb (xs ++ e :: ys)) :
    Ring (up nx (pv e) (nx e)) (up pv (nx e) (pv e)) lb (xs ++ ys) ∧ pv e ∈ lb :: (xs ++ ys) ∧ nx e ∈ lb :: (xs ++ ys) ∧ e ∉ lb :: (xs ++ ys) := by
  obtain ⟨h, hn⟩ := h
  obtain ⟨A, p, hA⟩ : ∃ A p, lb :: xs = A ++ [p] := ⟨(lb :: xs).dropLast, (lb :: xs).getLast (by simp), (List.dropLast_concat_getLast (by simp)).symm⟩
  obtain ⟨n, B, hB⟩ : ∃ n B, ys ++ [lb] = n :: B := by
    cases ys with
    | nil => exact ⟨lb, [], rfl⟩
    | cons a es => exact ⟨a, es ++ [lb], rfl⟩
  have ec : lb :: (xs ++ e :: ys) ++ [lb] = A ++ p :: e :: n :: B := by
    rw [show lb :: (xs ++ e :: ys) ++ [lb] = (lb :: xs) ++ e :: (ys ++ [lb]) by simp, hA, hB]; simp
  rw [ec] at h
  obtain ⟨h1, ⟨p1, p2⟩, ⟨n1, n2⟩, h3⟩ := (Lk.split _ _ _).1 h
  have hn' := List.nodup_cons.1 hn
  obtain ⟨nd1, nd2, nd3⟩ := List.nodup_append.1 hn'.2
  have nd2' := List.nodup_cons.1 nd2
  have hpm : p ∈ lb :: xs := by rw [hA]; simp
  have hnm : n ∈ ys ++ [lb] := by rw [hB]; simp
  have hlx : lb ∉ xs := fun x => hn'.1 (by simp [x])
  have hly : lb ∉ ys := fun x => hn'.1 (by simp [x])
  have hle : lb ≠ e := fun x => hn'.1 (by simp [x])
  have hex : e ∉ xs := fun x => nd3 e x e (by simp) rfl
  have hey : e ∉ ys := nd2'.1
  have hxy : ∀ a, a ∈ xs → a ∉ ys := fun a h1 h2 => nd3 a h1 a (by simp [h2]) rfl
  have ndA : (A ++ [p]).Nodup := by rw [← hA]; exact List.nodup_cons.2 ⟨hlx, nd1⟩
  have ndB : (n :: B).Nodup := by
    rw [← hB, List.nodup_append]
    refine ⟨nd2'.2, by simp, fun a ha b hb => ?_⟩
    simp at hb; subst hb
    intro e'; subst e'; exact hly ha
  rw [p2, n1]
  have hp' : p ∈ lb :: (xs ++ ys) := by
    rcases List.mem_cons.1 hpm with h | h <;> simp [h]
  have hn2 : n ∈ lb :: (xs ++ ys) := by
    rcases List.mem_append.1 hnm with h | h
    · simp [h]
    · simp at h; simp [h]
  refine ⟨⟨?_, ?_⟩, hp', hn2, ?_⟩
  · have ec' : lb :: (xs ++ ys) ++ [lb] = A ++ p :: n :: B := by
      rw [show lb :: (xs ++ ys) ++ [lb] = (lb :: xs) ++ (ys ++ [lb]) by simp, hA, hB]; simp
    rw [ec']
    refine (Lk.split _ _ _).2 ⟨h1.frame (fun a ha => ?_) fun b hb => ?_, ⟨up_same _ _ _, up_same _ _ _⟩, h3.frame (fun a ha => ?_) fun b hb => ?_⟩
    · rw [List.dropLast_concat] at ha
      exact up_ne fun x => (List.nodup_append.1 ndA).2.2 a ha p (by simp) x
    · rw [← hA] at hb
      simp only [List.tail_cons] at hb
      refine up_ne fun x => ?_
      rw [x] at hb
      rcases List.mem_append.1 hnm with h | h
      · exact hxy _ hb h
      · simp at h; rw [h] at hb; exact hlx hb
    · rw [← hB, List.dropLast_concat] at ha
      refine up_ne fun x => ?_
      rw [x] at ha
      rcases List.mem_cons.1 hpm with h | h
      · rw [h] at ha; exact hly ha
      · exact hxy _ h ha
    · simp only [List.tail_cons] at hb
      exact up_ne fun x => (List.nodup_cons.1 ndB).1 (x ▸ hb)
  · refine List.nodup_cons.2 ⟨by simp [hlx, hly], List.nodup_append.2 ⟨nd1, nd2'.2, fun a ha b hb => nd3 a ha b (by simp [hb])⟩⟩
  · simp [Ne.symm hle, hex, hey]
theorem ring_last {nx pv : Nat → Nat} {lb e : Nat} {xs : List Nat} (h : Ring nx pv lb (xs ++ [e])) : pv lb = e := by
  have h := h.1
  rw [show lb :: (xs ++ [e]) ++ [lb] = (lb :: xs) ++ e :: [lb] by simp] at h
  exact ((Lk.split _ _ _).1 h).2.1.2
theorem ring_first {nx pv : Nat → Nat} {lb e : Nat} {xs : List Nat} (h : Ring nx pv lb (e :: xs)) : nx lb = e := h.1.1.1
theorem ring_nil (lb : Nat) (nx pv : Nat → Nat) (h1 : nx lb = lb) (h2 : pv lb = lb) : Ring nx pv lb [] := ⟨⟨⟨h1, h2⟩, trivial⟩, by simp⟩

/-! ## Memory -/
def pb (x : Nat) : Value := .pointer (some ⟨x, 0, none⟩)
def Nd (w : World) (lb len : Nat) (key : Nat → ByteArray) (nx pv : Nat → Nat) (x : Nat) : Prop :=
  (x = lb → Blk w x 85 [pb (nx x), pb (pv x), .pointer none, .nilIface, .int .i64 ((len : Nat) : Int)]) ∧ (x ≠ lb → Blk w x 83 [pb (nx x), pb (pv x), pb lb, .iface 9 (.string (key x))])
def Nds (w : World) (lb len : Nat) (key : Nat → ByteArray) (nx pv : Nat → Nat) (S : List Nat) : Prop := ∀ x ∈ S, Nd w lb len key nx pv x
section
variable {w w' : World} {lb len : Nat} {key key' : Nat → ByteArray} {nx pv nx' pv' : Nat → Nat} {S : List Nat} {x p q : Nat} {k : W}
theorem Nd.blk (h : Nd w lb len key nx pv x) : ∃ t us, Blk w x t us ∧ t ∈ [83, 85] ∧ us[0]? = some (pb (nx x)) ∧ us[1]? = some (pb (pv x)) ∧ 2 ≤ us.length := by
  by_cases e : x = lb
  · exact ⟨_, _, h.1 e, by decide, rfl, rfl, by simp⟩
  · exact ⟨_, _, h.2 e, by decide, rfl, rfl, by simp⟩
theorem Nd.fr {G : Nat → Prop} (h : Nd w lb len key nx pv x) (f : Fr G w w') (hG : ¬ G x) : Nd w' lb len key nx pv x := ⟨fun e => (h.1 e).fr f hG, fun e => (h.2 e).fr f hG⟩
theorem Nd.congr (h : Nd w lb len key nx pv x) (h1 : nx' x = nx x) (h2 : pv' x = pv x) (h3 : key' x = key x) : Nd w lb len key' nx' pv' x :=
  ⟨fun e => by rw [h1, h2]; exact h.1 e, fun e => by rw [h1, h2, h3]; exact h.2 e⟩
theorem Nds.fr0 (h : Nds w lb len key nx pv S) (f : Fr (fun _ => False) w w') : Nds w' lb len key nx pv S := fun x hx => (h x hx).fr f id
theorem Nds.fr {G : Nat → Prop} (h : Nds w lb len key nx pv S) (f : Fr G w w') (hG : ∀ x ∈ S, ¬ G x) : Nds w' lb len key nx pv S := fun x hx => (h x hx).fr f (hG x hx)
theorem Nds.ty (h : Nds w lb len key nx pv S) : Tys (fun b => b ∈ S) w [83, 85] := fun b u us hb hu => by
  obtain ⟨t, us', h1, h2, _⟩ := (h b hb).blk
  rw [(hu.unique h1).1]; exact h2
theorem Nd.ld_nx {f : Option Addr → W} (h : Nd w lb len key nx pv x) (hk : f (some ⟨nx x, 0, none⟩) w) : LoadT .ptr ⟨x, 0, none⟩ f w := by
  obtain ⟨t, us, h1, _, h3, _⟩ := h.blk
  exact load_ptr h1 h3 hk
theorem Nd.ld_pv {f : Option Addr → W} (h : Nd w lb len key nx pv x) (hk : f (some ⟨pv x, 0, none⟩) w) : LoadT .ptr ⟨x, 1, none⟩ f w := by
  obtain ⟨t, us, h1, _, _, h4, _⟩ := h.blk
  exact load_ptr h1 h4 hk
theorem Nds.st_nx (h : Nds w lb len key nx pv S) (hp : p ∈ S) (hk : ∀ w', Nds w' lb len key (up nx p q) pv S → Fr (fun b => b = p) w w' → w'.heap.size = w.heap.size → k w') : Store1 ⟨p, 0, none⟩ (.pointer (some ⟨q, 0, none⟩)) k w := by
  by_cases e : p = lb
  · refine store_intro (i := 0) ((h p hp).1 e) (by simp) rfl fun w' b f z => hk w' (fun x hx => ?_) f z
    by_cases ex : x = p
    · subst ex
      exact ⟨fun _ => by rw [up_same]; exact b, fun ne => absurd e ne⟩
    · exact ((h x hx).fr f ex).congr (up_ne ex) rfl rfl
  · refine store_intro (i := 0) ((h p hp).2 e) (by simp) rfl fun w' b f z => hk w' (fun x hx => ?_) f z
    by_cases ex : x = p
    · subst ex
      exact ⟨fun e' => absurd e' e, fun _ => by rw [up_same]; exact b⟩
    · exact ((h x hx).fr f ex).congr (up_ne ex) rfl rfl
theorem Nds.st_pv (h : Nds w lb len key nx pv S) (hp : p ∈ S) (hk : ∀ w', Nds w' lb len key nx (up pv p q) S → Fr (fun b => b = p) w w' → w'.heap.size = w.heap.size → k w') : Store1 ⟨p, 1, none⟩ (.pointer (some ⟨q, 0, none⟩)) k w := by
  by_cases e : p = lb
  · refine store_intro (i := 1) ((h p hp).1 e) (by simp) rfl fun w' b f z => hk w' (fun x hx => ?_) f z
    by_cases ex : x = p
    · subst ex
      exact ⟨fun _ => by rw [up_same]; exact b, fun ne => absurd e ne⟩
    · exact ((h x hx).fr f ex).congr rfl (up_ne ex) rfl
  · refine store_intro (i := 1) ((h p hp).2 e) (by simp) rfl fun w' b f z => hk w' (fun x hx => ?_) f z
    by_cases ex : x = p
    · subst ex
      exact ⟨fun e' => absurd e' e, fun _ => by rw [up_same]; exact b⟩
    · exact ((h x hx).fr f ex).congr rfl (up_ne ex) rfl
/-- The length is written. -/
theorem Nds.st_len {len' : Nat} (h : Nds w lb len key nx pv S) (hp : lb ∈ S) (hk : ∀ w', Nds w' lb len' key nx pv S → Fr (fun b => b = lb) w w' → w'.heap.size = w.heap.size → k w') : Store1 ⟨lb, 4, none⟩ (.int .i64 ((len' : Nat) : Int)) k w := by
  refine store_intro (i := 4) ((h lb hp).1 rfl) (by simp) rfl fun w' b f z => hk w' (fun x hx => ?_) f z
  by_cases ex : x = lb
  · subst ex; exact ⟨fun _ => b, fun ne => absurd rfl ne⟩
  · exact ⟨fun e => absurd e ex, fun _ => ((h x hx).2 ex).fr f ex⟩
theorem Nds.ld_len {f : Int → W} (h : Nds w lb len key nx pv S) (hp : lb ∈ S) (hk : f ((len : Nat) : Int) w) : LoadT (.int .i64) ⟨lb, 4, none⟩ f w := load_int (i := 4) ((h lb hp).1 rfl) rfl hk
/-- A list in memory: the blocks of its elements from its front on. -/
def LM (w : World) (lb : Nat) (key : Nat → ByteArray) (es : List Nat) : Prop := ∃ nx pv, Nds w lb es.length key nx pv (lb :: es) ∧ Ring nx pv lb es
def updk (f : Nat → ByteArray) (a : Nat) (b : ByteArray) : Nat → ByteArray := fun x => if x = a then b else f x
theorem LM.fr {G : Nat → Prop} {es : List Nat} (h : LM w lb key es) (f : Fr G w w') (hG : ∀ x ∈ lb :: es, ¬ G x) : LM w' lb key es := by
  obtain ⟨nx, pv, h1, h2⟩ := h
  exact ⟨nx, pv, h1.fr f hG, h2⟩
theorem LM.ty {es : List Nat} (h : LM w lb key es) : Tys (fun b => b ∈ lb :: es) w [83, 85] := by
  obtain ⟨nx, pv, h1, h2⟩ := h
  exact h1.ty
theorem LM.lt {es : List Nat} (h : LM w lb key es) (hx : x ∈ lb :: es) : x < w.heap.size := by
  obtain ⟨nx, pv, h1, h2⟩ := h
  obtain ⟨t, us, h3, _⟩ := (h1 x hx).blk
  exact h3.lt
theorem LM.nd {es : List Nat} (h : LM w lb key es) : (lb :: es).Nodup := by obtain ⟨nx, pv, h1, h2⟩ := h; exact h2.2
theorem LM.el {es : List Nat} (h : LM w lb key es) (hx : x ∈ es) : ∃ a b : Nat, Blk w x 83 [pb a, pb b, pb lb, .iface 9 (.string (key x))] := by
  have hn := h.nd
  obtain ⟨nx, pv, h1, h2⟩ := h
  exact ⟨_, _, (h1 x (List.mem_cons_of_mem _ hx)).2 fun e => (List.nodup_cons.1 hn).1 (e ▸ hx)⟩
end
/-! ## Pointers held against each other -/
theorem und71 : Tryd.prog.underlying 71 = some (.pointer 85) := by kernel_rfl
theorem und75 : Tryd.prog.underlying 75 = some (.pointer 83) := by kernel_rfl
theorem size85 (w : World) : (sizeOf 85).run Tryd.prog w = .ok 5 w := by kernel_rfl
theorem size83 (w : World) : (sizeOf 83).run Tryd.prog w = .ok 4 w := by kernel_rfl
def Known (w : World) (x : Option Addr) : Prop := x = none ∨ ∃ b t vs, x = some ⟨b, 0, none⟩ ∧ Blk w b t vs
theorem run_ptrs {t e n : TypeId} {x y : Option Addr} {w : World} (hn0 : n ≠ 0) (hu : Tryd.prog.underlying t = some (.pointer e)) (hs : ∀ w, (sizeOf e).run Tryd.prog w = .ok n w) (hx : Known w x) (hy : Known w y) : (Op.equal t (.pointer x) (.pointer y)).run Tryd.prog w = .ok (decide (x = y)) w := by
  show (Op.equalIn (9999 + 1) t _ _).run _ w = _
  unfold Op.equalIn
  rcases hx with rfl | ⟨b, t, vs, rfl, hb⟩
  · rcases hy with rfl | ⟨c, t, vs, rfl, hc⟩
    · simp [run_underlying hu]
    · simp [run_underlying hu]
  · rcases hy with rfl | ⟨c, t', vs', rfl, hc⟩
    · simp [run_underlying hu]
    · simp only [Sem.run_bind, run_underlying hu, Result.andThen_ok, hs]
      by_cases hbc : b = c
      · subst hbc
        simp [run_sameAddr_same]
      · have hne : (⟨b, 0, none⟩ : Addr) ≠ ⟨c, 0, none⟩ := fun h => by cases h; exact hbc rfl
        have := run_sameAddr_other (P := Tryd.prog) (w := w) hne hb hc
        simp [this, hbc, hn0]
theorem eql71 {x y : Option Addr} {a b : Operand} {K : Bool → W} {w : World} (hx : Known w x) (hy : Known w y) (hk : K (decide (x = y)) w) : RawS Tryd.prog (binS .eql 71 a b (.pointer x) (.pointer y)) (.s (.one .bool)) K w := by
  refine ⟨(decide (x = y), ()), ?_, hk⟩
  have := run_ptrs (by decide) und71 size85 hx hy
  unfold binS
  rw [Sem.run_bind, run_guard_ptr]
  simp [binOp, this]
  rfl
theorem neq71 {x y : Option Addr} {a b : Operand} {K : Bool → W} {w : World} (hx : Known w x) (hy : Known w y) (hk : K (decide (x ≠ y)) w) : RawS Tryd.prog (binS .neq 71 a b (.pointer x) (.pointer y)) (.s (.one .bool)) K w := by
  refine ⟨(decide (x ≠ y), ()), ?_, hk⟩
  have := run_ptrs (by decide) und71 size85 hx hy
  unfold binS
  rw [Sem.run_bind, run_guard_ptr]
  simp [binOp, this]
  rfl
theorem eql75 {x y : Option Addr} {a b : Operand} {K : Bool → W} {w : World} (hx : Known w x) (hy : Known w y) (hk : K (decide (x = y)) w) : RawS Tryd.prog (binS .eql 75 a b (.pointer x) (.pointer y)) (.s (.one .bool)) K w := by
  refine ⟨(decide (x = y), ()), ?_, hk⟩
  have := run_ptrs (by decide) und75 size83 hx hy
  unfold binS
  rw [Sem.run_bind, run_guard_ptr]
  simp [binOp, this]
  rfl

theorem Nds.known {w : World} {lb len : Nat} {key : Nat → ByteArray} {nx pv : Nat → Nat} {S : List Nat} {x : Nat} (h : Nds w lb len key nx pv S) (hx : x ∈ S) : Known w (some ⟨x, 0, none⟩) := by
  obtain ⟨t, us, h1, _⟩ := (h x hx).blk
  exact .inr ⟨x, t, us, rfl, h1⟩
theorem ptr_iff {a b : Nat} : ((some ⟨a, 0, none⟩ : Option Addr) = some ⟨b, 0, none⟩) ↔ a = b := by simp
/-! ## The functions of the lists -/
section
variable {w : World} {k : Value → W} {lb e : Nat} {es xs ys : List Nat} {key : Nat → ByteArray}
theorem F23_spec (hk : ∀ w' lb, lb = w.heap.size → LM w' lb key [] → Fr (fun _ => False) w w' → k (pb lb) w') : F23 k w := by
  unfold F23
  refine new_intro fun n1 w1 e1 b1 f1 z1 => F27_call ?_
  unfold F27
  simp only [NN_mk, add_mk, Nat.zero_add]
  refine store_intro (i := 0) b1 (by simp) rfl fun w2 b2 f2 z2 => store_intro (i := 1) b2 (by simp) rfl fun w3 b3 f3 z3 => store_intro (i := 4) b3 (by simp) rfl fun w4 b4 f4 z4 => back_ptr ?_
  refine hk w4 n1 e1 ⟨fun _ => n1, fun _ => n1, fun x hx => ?_, ring_nil _ _ _ rfl rfl⟩ (((f1.mono (S' := fun b => b = n1) fun _ h => h.elim).trans f2 fun _ h => .inl h).trans f3 (fun _ h => .inl h) |>.trans f4 (fun _ h => .inl h) |>.mono fun b h => .inr (by have h : b = n1 := h; omega))
  simp only [List.mem_singleton] at hx
  subst hx
  exact ⟨fun _ => b4, fun h => absurd rfl h⟩
theorem F69_spec (h : LM w lb key es) (hl : es.length < 100000) (hk : k (.pointer (es.getLast?.map fun x => ⟨x, 0, none⟩)) w) : F69 k (some ⟨lb, 0, none⟩) w := by
  obtain ⟨nx, pv, hN, hR⟩ := h
  unfold F69
  simp only [NN_mk, add_mk, Nat.zero_add]
  refine hN.ld_len (by simp) ?_
  rcases List.eq_nil_or_concat es with rfl | ⟨xs, x, rfl⟩
  · rw [show (((([] : List Nat).length : Nat) : Int) == 0) = true from rfl, BIf_true]
    exact hk
  · rw [List.concat_eq_append] at *
    rw [show ((((xs ++ [x]).length : Nat) : Int) == 0) = false by rw [beq_eq_false_iff_ne]; simp; omega, BIf_false]
    refine (hN lb (by simp)).ld_pv ?_
    rw [ring_last hR]
    rw [List.getLast?_append] at hk
    exact hk
/-- An element is put in front. -/
theorem F26_spec {kb : ByteArray} (h : LM w lb key es) (hl : es.length < 100000) (hk : ∀ w' e, w.heap.size ≤ e → LM w' lb (fun x => if x = e then kb else key x) (e :: es) → Fr (fun b => b ∈ lb :: es) w w' → k (pb e) w') :
    F26 k (some ⟨lb, 0, none⟩) (.iface 9 (.string kb)) w := by
  have hlt := fun x hx => h.lt (x := x) hx
  obtain ⟨nx, pv, hN, hR⟩ := h
  have hlb : lb ∈ lb :: es := List.mem_cons_self ..
  unfold F26
  refine F30_call ?_
  unfold F30
  rw [NN_mk]
  refine (hN lb hlb).ld_nx ?_
  rw [show (some (⟨nx lb, 0, none⟩ : Addr)).isNone = false from rfl, BIf_false]
  refine back0 ?_
  rw [NN_mk]
  refine F31_call ?_
  unfold F31
  refine Req_iff.2 ⟨rfl, new_intro fun n4 w1 e1 b1 f1 z1 => F36_call ?_⟩
  have hN1 := hN.fr0 f1
  have hne : ∀ x ∈ lb :: es, x ≠ n4 := fun x hx => by have := hlt x hx; omega
  obtain ⟨hR', hnm⟩ := ring_insert hR (fun hx => hne n4 hx rfl)
  unfold F36
  simp only [NN_mk, add_mk, Nat.zero_add]
  refine store_intro (i := 1) b1 (by simp) rfl fun w2 b2 f2 z2 => ?_
  have hN2 := hN1.fr f2 hne
  refine (hN2 lb hlb).ld_nx ?_
  refine store_intro (i := 0) b2 (by simp) rfl fun w3 b3 f3 z3 => ?_
  have hN3 := hN2.fr f3 hne
  refine load_ptr (i := 1) b3 rfl ?_
  rw [NN_mk]
  refine hN3.st_nx hlb fun w4 hN4 f4 z4 => ?_
  have b4 := b3.fr f4 (fun x => hne lb hlb x.symm)
  refine load_ptr (i := 0) b4 rfl ?_
  simp only [NN_mk, add_mk, Nat.zero_add]
  refine hN4.st_pv hnm fun w5 hN5 f5 z5 => ?_
  have b5 := b4.fr f5 (fun x => hne _ hnm x.symm)
  refine store_intro (i := 2) b5 (by simp) rfl fun w6 b6 f6 z6 => ?_
  have hN6 := hN5.fr f6 hne
  refine hN6.ld_len hlb ?_
  rw [addI_i64 (by omega) (by omega), show ((es.length : Nat) : Int) + 1 = ((es.length + 1 : Nat) : Int) by omega]
  refine hN6.st_len hlb fun w7 hN7 f7 z7 => back_ptr (back_ptr ?_)
  have b7 := b6.fr f7 (fun x => hne lb hlb x.symm)
  have ff : Fr (fun b => b ∈ lb :: es ∨ b = n4) w w7 := by
    refine ((((((f1.mono (S' := fun b => b ∈ lb :: es ∨ b = n4) fun _ h => h.elim).trans f2 fun b h => .inl (.inr h)).trans f3 fun b h => .inl (.inr h)).trans f4 fun b h => .inl (.inl ?_)).trans f5 fun b h => .inl (.inl ?_)).trans f6 fun b h => .inl (.inr h)).trans f7 fun b h => .inl (.inl ?_)
    · have h : b = lb := h; rw [h]; exact hlb
    · have h : b = nx lb := h; rw [h]; exact hnm
    · have h : b = lb := h; rw [h]; exact hlb
  refine hk w7 n4 (by omega) ⟨_, _, fun x hx => ?_, hR'⟩ (ff.mono fun b hb => ?_)
  · by_cases ex : x = n4
    · subst ex
      refine ⟨fun e => absurd e.symm (hne lb hlb), fun _ => ?_⟩
      rw [up_ne (fun e => hne lb hlb e.symm), up_same, up_ne (fun e => hne _ hnm e.symm), up_same]
      simp only [eq_self, if_true]
      exact b7
    · have hx' : x ∈ lb :: es := by
        rcases List.mem_cons.1 hx with h | h
        · rw [h]; exact hlb
        · rcases List.mem_cons.1 h with h | h
          · exact absurd h ex
          · exact List.mem_cons_of_mem _ h
      refine (hN7 x hx').congr ?_ ?_ (if_neg ex)
      · by_cases e : x = lb
        · rw [e, up_same, up_same]
        · rw [up_ne e, up_ne e, up_ne ex]
      · by_cases e : x = nx lb
        · rw [e, up_same, up_same]
        · rw [up_ne e, up_ne e, up_ne ex]
  · rcases hb with h | h
    · exact .inl h
    · exact .inr (by omega)
/-- An element is moved to the front. -/
theorem F25_spec (h : LM w lb key (xs ++ e :: ys)) (hk : ∀ w', LM w' lb key (e :: (xs ++ ys)) → Fr (fun b => b ∈ lb :: (xs ++ e :: ys)) w w' → w'.heap.size = w.heap.size → k (.tuple #[]) w') :
    F25 k (some ⟨lb, 0, none⟩) (some ⟨e, 0, none⟩) w := by
  obtain ⟨nx, pv, hN, hR⟩ := h
  have hlb : lb ∈ lb :: (xs ++ e :: ys) := List.mem_cons_self ..
  have he : e ∈ lb :: (xs ++ e :: ys) := by simp
  have hel : e ≠ lb := fun x => by
    have := (List.nodup_cons.1 hR.2).1
    exact this (by rw [← x]; simp)
  unfold F25
  simp only [NN_mk, add_mk, Nat.zero_add]
  have bE := (hN e he).2 hel
  refine load_ptr (i := 2) bE rfl (neq71 (hN.known hlb) (hN.known hlb) ?_)
  rw [decide_eq_false (by simp), BIf_false]
  refine (hN lb hlb).ld_nx ?_
  have hnl : nx lb ∈ lb :: (xs ++ e :: ys) := by
    cases xs with
    | nil => rw [ring_first hR]; simp
    | cons a xs => rw [ring_first (nx := nx) (pv := pv) (e := a) (xs := xs ++ e :: ys) (by simpa using hR)]; simp
  refine eql75 (hN.known hnl) (hN.known he) ?_
  by_cases h1 : nx lb = e
  · rw [decide_eq_true (by rw [h1]), BIf_true]
    have hxs : xs = [] := by
      cases xs with
      | nil => rfl
      | cons a xs =>
        exfalso
        have ha : a = e := by rw [← h1, ring_first (nx := nx) (pv := pv) (e := a) (xs := xs ++ e :: ys) (by simpa using hR)]
        have := (List.nodup_cons.1 (List.nodup_cons.1 hR.2).2).1
        exact this (by rw [ha]; simp)
    subst hxs
    exact hk w ⟨nx, pv, hN, hR⟩ (Fr.refl _ _) rfl
  · rw [decide_eq_false (fun x => h1 (ptr_iff.1 x)), BIf_false]
    refine F29_call ?_
    unfold F29
    refine eql75 (hN.known he) (hN.known hlb) ?_
    rw [decide_eq_false (fun x => hel (ptr_iff.1 x)), BIf_false]
    simp only [NN_mk, add_mk, Nat.zero_add]
    obtain ⟨hR1, hp, hn, hne⟩ := ring_remove hR
    obtain ⟨hR2, hq⟩ := ring_insert hR1 hne
    have sub : ∀ x ∈ lb :: (xs ++ ys), x ∈ lb :: (xs ++ e :: ys) := fun x hx => by
      simp only [List.mem_cons, List.mem_append] at hx ⊢
      rcases hx with h | h | h
      · exact .inl h
      · exact .inr (.inl h)
      · exact .inr (.inr (.inr h))
    have hpe : pv e ≠ e := fun x => hne (by rw [← x]; exact hp)
    have hnee : nx e ≠ e := fun x => hne (by rw [← x]; exact hn)
    refine drw_intro fun w1 f1 z1 => ?_
    have hN1 := hN.fr0 f1
    refine (hN1 e he).ld_pv ((hN1 e he).ld_nx ?_)
    rw [NN_mk]
    refine hN1.st_nx (sub _ hp) fun w2 hN2 f2 z2 => drw_intro fun w3 f3 z3 => ?_
    have hN3 := hN2.fr0 f3
    refine (hN3 e he).ld_nx ((hN3 e he).ld_pv ?_)
    rw [up_ne (Ne.symm hpe)]
    simp only [NN_mk, add_mk, Nat.zero_add]
    refine hN3.st_pv (sub _ hn) fun w4 hN4 f4 z4 => ?_
    refine hN4.st_pv he fun w5 hN5 f5 z5 => ?_
    refine (hN5 lb hlb).ld_nx ?_
    refine hN5.st_nx he fun w6 hN6 f6 z6 => ?_
    refine (hN6 e he).ld_pv ?_
    rw [up_same, NN_mk]
    refine hN6.st_nx hlb fun w7 hN7 f7 z7 => ?_
    refine (hN7 e he).ld_nx ?_
    rw [up_ne hel, up_same]
    simp only [NN_mk, add_mk, Nat.zero_add]
    refine hN7.st_pv (sub _ hq) fun w8 hN8 f8 z8 => back0 ?_
    refine hk w8 ⟨_, _, fun x hx => ?_, hR2⟩ ?_ (by omega)
    · have hl : (e :: (xs ++ ys)).length = (xs ++ e :: ys).length := by simp; omega
      rw [hl]
      refine hN8 x ?_
      simp only [List.mem_cons, List.mem_append] at hx ⊢
      rcases hx with h | h | h | h
      · exact .inl h
      · exact .inr (.inr (.inl h))
      · exact .inr (.inl h)
      · exact .inr (.inr (.inr h))
    · have one : ∀ {x : Nat}, x ∈ lb :: (xs ++ e :: ys) → ∀ b, b = x → b ∈ lb :: (xs ++ e :: ys) := fun h b hb => by rw [hb]; exact h
      exact ((((((((f1.mono fun _ h => h.elim).trans f2 fun b h => .inl (one (sub _ hp) b h)).trans f3 fun b h => h.elim).trans f4 fun b h => .inl (one (sub _ hn) b h)).trans f5 fun b h => .inl (one he b h)).trans f6 fun b h => .inl (one he b h)).trans f7 fun b h => .inl (one hlb b h)).trans f8 fun b h => .inl (one (sub _ hq) b h))
/-- An element is taken out. -/
theorem F68_spec (h : LM w lb key (xs ++ e :: ys)) (hl : (xs ++ e :: ys).length < 100000) (hk : ∀ w' v, LM w' lb key (xs ++ ys) → Fr (fun b => b ∈ lb :: (xs ++ e :: ys)) w w' → w'.heap.size = w.heap.size → k v w') :
    F68 k (some ⟨lb, 0, none⟩) (some ⟨e, 0, none⟩) w := by
  obtain ⟨nx, pv, hN, hR⟩ := h
  have hlb : lb ∈ lb :: (xs ++ e :: ys) := List.mem_cons_self ..
  have he : e ∈ lb :: (xs ++ e :: ys) := by simp
  have hel : e ≠ lb := fun x => by
    have := (List.nodup_cons.1 hR.2).1
    exact this (by rw [← x]; simp)
  obtain ⟨hR1, hp, hn, hne⟩ := ring_remove hR
  have sub : ∀ x ∈ lb :: (xs ++ ys), x ∈ lb :: (xs ++ e :: ys) := fun x hx => by
    simp only [List.mem_cons, List.mem_append] at hx ⊢
    rcases hx with h | h | h
    · exact .inl h
    · exact .inr (.inl h)
    · exact .inr (.inr (.inr h))
  have hpe : pv e ≠ e := fun x => hne (by rw [← x]; exact hp)
  have hnee : nx e ≠ e := fun x => hne (by rw [← x]; exact hn)
  unfold F68
  simp only [NN_mk, add_mk, Nat.zero_add]
  have bE := (hN e he).2 hel
  refine load_ptr (i := 2) bE rfl (eql71 (hN.known hlb) (hN.known hlb) ?_)
  rw [decide_eq_true (by rfl), BIf_true]
  refine F70_call ?_
  unfold F70
  simp only [NN_mk, add_mk, Nat.zero_add]
  refine drw_intro fun w1 f1 z1 => ?_
  have hN1 := hN.fr0 f1
  refine (hN1 e he).ld_pv ((hN1 e he).ld_nx ?_)
  rw [NN_mk]
  refine hN1.st_nx (sub _ hp) fun w2 hN2 f2 z2 => drw_intro fun w3 f3 z3 => ?_
  have hN3 := hN2.fr0 f3
  refine (hN3 e he).ld_nx ((hN3 e he).ld_pv ?_)
  rw [up_ne (Ne.symm hpe)]
  simp only [NN_mk, add_mk, Nat.zero_add]
  refine hN3.st_pv (sub _ hn) fun w4 hN4 f4 z4 => ?_
  have bE4 := (hN4 e he).2 hel
  have hNr : Nds w4 lb (xs ++ e :: ys).length key (up nx (pv e) (nx e)) (up pv (nx e) (pv e)) (lb :: (xs ++ ys)) := fun x hx => hN4 x (sub x hx)
  refine store_intro (i := 0) bE4 (by simp) rfl fun w5 b5 f5 z5 => store_intro (i := 1) b5 (by simp) rfl fun w6 b6 f6 z6 => store_intro (i := 2) b6 (by simp) rfl fun w7 b7 f7 z7 => ?_
  have f57 : Fr (fun b => b = e) w4 w7 := (f5.trans f6 fun _ h => .inl h).trans f7 fun _ h => .inl h
  have hN7 := hNr.fr f57 (fun x hx (h : x = e) => hne (h ▸ hx))
  refine hN7.ld_len (by simp) ?_
  have el : (xs ++ e :: ys).length = (xs ++ ys).length + 1 := by simp; omega
  rw [subI_i64 (by omega) (by omega), show (((xs ++ e :: ys).length : Nat) : Int) - 1 = (((xs ++ ys).length : Nat) : Int) by omega]
  refine hN7.st_len (by simp) fun w8 hN8 f8 z8 => back0 ?_
  unfold F68_J1
  rw [NN_mk]
  have b8 := b7.fr f8 hel
  simp only [add_mk, Nat.zero_add]
  refine load_any (i := 3) b8 rfl (hk w8 _ ⟨_, _, hN8, hR1⟩ ?_ (by omega))
  have one : ∀ {x : Nat}, x ∈ lb :: (xs ++ e :: ys) → ∀ b, b = x → b ∈ lb :: (xs ++ e :: ys) := fun h b hb => by rw [hb]; exact h
  exact ((((((f1.mono fun _ h => h.elim).trans f2 fun b h => .inl (one (sub _ hp) b h)).trans f3 fun b h => h.elim).trans f4 fun b h => .inl (one (sub _ hn) b h)).trans f57 fun b h => .inl (one he b h)).trans f8 fun b h => .inl (one hlb b h))
end
end Go.Proofs.YtmaejciimpnogaaDoor.E
