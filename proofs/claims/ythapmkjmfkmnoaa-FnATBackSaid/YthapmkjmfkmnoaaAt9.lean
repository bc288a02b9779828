/-
  Interval trees: a query.
-/
import Derived.Test.YthapmkjmfkmnoaaAt8
import Derived.Shelf.Abstract
namespace Go.Proofs.Ythapmkjmfkmnoaa.E
open Go
set_option linter.unusedSimpArgs false
set_option linter.unusedVariables false
set_option maxRecDepth 100000
set_option maxHeartbeats 8000000

open Tr
def at1 (s : St) (y : Spn) (m b : Nat) : List Spn := match (s b).x with
  | some x => if ovA x y m then [x] else []
  | none => []
/-- What is found, in order. -/
def got (s : St) (y : Spn) (m : Nat) : Tr → List Spn
  | .lf => []
  | .nd l b r => got s y m l ++ (at1 s y m b ++ got s y m r)
theorem got_none {s : St} {y : Spn} {m : Nat} : ∀ {t : Tr}, (∀ z ∈ t.ino, at1 s y m z = []) → got s y m t = []
  | .lf, _ => rfl
  | .nd l b r, h => by
    unfold got
    rw [got_none (t := l) fun z hz => h z (by simp [ino, hz]), got_none (t := r) fun z hz => h z (by simp [ino, hz]), h b (by simp [ino])]; rfl
theorem pruned {s : St} {y : Spn} {m a : Nat} {t : Tr} (h : ∀ z ∈ t.ino, hiS s z ≤ (s a).mx ∧ (s a).mn ≤ loS s z) (hp : ovl (s a).mx y.hi (s a).mn y.lo = false) : got s y m t = [] := by
  refine got_none fun z hz => ?_
  have hz' := h z hz
  unfold at1
  cases hx : (s z).x with
  | none => rfl
  | some x =>
    have e1 : hiS s z = x.hi := by unfold hiS; rw [hx]; rfl
    have e2 : loS s z = x.lo := by unfold loS; rw [hx]; rfl
    rw [e1, e2] at hz'
    have : ovA x y m = false := by
      unfold ovA
      have : ovl x.hi y.hi x.lo y.lo = false := by
        unfold ovl at hp ⊢
        rw [Bool.and_eq_false_iff, decide_eq_false_iff_not, decide_eq_false_iff_not] at hp ⊢
        omega
      rw [this]; rfl
    simp [this]
theorem Own.n {w : World} {e : TypeId} {p : Option Addr} {l c : Nat} {vs : List Value} (h : Own w e p l c vs) : OwnN w e 1 p l c vs := by
  refine ⟨by rw [h.1, Nat.mul_one], ?_⟩
  rcases h.2 with h' | ⟨q, rest, h1, h2, h3, h4⟩
  · exact .inl h'
  · refine .inr ⟨q, rest, h1, h2, by omega, ?_, h4⟩
    have := h.1
    rw [← h3, List.length_append]; omega
theorem OwnN.one {w : World} {e : TypeId} {p : Option Addr} {l c : Nat} {vs : List Value} (h : OwnN w e 1 p l c vs) : Own w e p l c vs := by
  refine ⟨by have := h.1; omega, ?_⟩
  rcases h.2 with h' | ⟨q, rest, h1, h2, h3, h4, h5⟩
  · exact .inl h'
  · exact .inr ⟨q, rest, h1, h2, by omega, h5⟩
theorem ent44 : ∀ args w, (callFunc 44 args).run Try.prog w = .ok (.enter 44 args) w := enters_of Try.func44 (by kernel_rfl) rfl
theorem callV_enter {P : Program} {f : FuncId} {args caps : Array Value} {w : World} (h : ∀ args w, (callFunc f args).run P w = .ok (.enter f args) w) :
    (callV (.func (.func f) #[] caps) args).run P w = .ok (.enter f (args ++ caps)) w := by
  have e := h (args ++ caps) w
  simp [callV, Deferred.ofValue, invoke, e]
theorem und64 : Try.prog.underlying 64 = some (.slice 57) := by kernel_rfl
theorem inf57 : ∃ i, Try.prog.info? 57 = some i ∧ i.zero = some .nilIface ∧ i.size = 1 ∧ i.bytes ≤ 4096 := ⟨_, rfl, by kernel_rfl, by kernel_rfl, Nat.le_of_ble_eq_true (by kernel_rfl)⟩
theorem fill57 (t : TypeId) (v : Value) : ∀ i : TypeInfo, i.size = 1 → Instr.fill (fun j => some (j * i.size, i.size)) ((Array.range (1 * i.size)).map (Value.nilIface.cells[· % Value.nilIface.cells.size]!)) [(0, .iface t v)] = some [.iface t v].toArray := by
  intro i h; rw [h]; kernel_rfl
/-- What is found so far. -/
def FL (w : World) (n6 lo : Nat) (X : List Spn) : Prop := ∃ p l c, Blk w n6 64 [.slice p l c] ∧ Own w 57 p l c (X.map Spn.v) ∧ ∀ b, bl p b → lo ≤ b
section
variable {w : World} {k : Value → W} {D : List Nat} {s : St} {n6 lo m : Nat} {y : Spn}
/-- What a query may write. -/
def Wr (w : World) (n6 lo : Nat) (b : Nat) : Prop := b = n6 ∨ (lo ≤ b ∧ ∀ u us, Blk w b u us → u = 57)
theorem F44_spec {b : Nat} {x : Spn} {X : List Spn} (h : MS w D s) (hb : b ∈ D) (hx : (s b).x = some x) (hF : FL w n6 lo X) (hl : X.length < 1000000) (hlo : lo ≤ w.heap.size) (hn6 : lo ≤ n6)
    (hy : SpOk w y) (hk : ∀ w', MS w' D s → FL w' n6 lo (X ++ [x]) → w.heap.size ≤ w'.heap.size → SpOk w' y → Fr (fun b => lo ≤ b) w w' → k (.tuple #[]) w') : F44 k (some ⟨b, 0, none⟩) ⟨n6, 0, none⟩ w := by
  obtain ⟨p, l, c, B, O, hp⟩ := hF
  obtain ⟨i57, g1, g2, g3, g4⟩ := inf57
  have hXl : l = X.length := by have := O.1; simpa using this.symm
  unfold F44
  refine drw_intro fun w1 f1 z1 => ?_
  have h1 := h.fr0 f1
  have B1 := B.fr f1 id
  refine load_slice (i := 0) B1 rfl ?_
  rw [NN_mk]
  refine ld_x h1 hb hx ?_
  refine build_intro und64 g1 g2 (by omega) (by omega) (fill57 59 x.a i57 g3) fun w2 f2 b2 z2 => ?_
  have B2 := B1.fr f2 id
  have O2 := (O.fr f1 fun _ _ => id).fr f2 fun _ _ => id
  refine ⟨by rw [B2.cell]; rfl, ?_⟩
  refine append_own und64 g1 g2 g3 (by decide) rfl g4 O2.n (m := 1) (news := [x.v]) rfl (fun j u hu => by rw [add_mk, Nat.zero_add, b2.cell]; exact hu) (fun u hu => by rw [List.mem_singleton] at hu; subst hu; rfl) (by omega) fun p' c' w3 f3 O3 hp3 => ?_
  have T3 : Tys (fun b => bl p b) w2 [57] := fun b u us hb hu => by
    obtain ⟨us', h'⟩ := O2.blk hb
    rw [(hu.unique h').1]; decide
  have B3 : Blk w3 n6 64 [.slice p l c] := B2.fr f3 fun hb => by have := T3 _ _ _ hb B2; simp at this
  have h2 := h1.fr0 f2
  have h3 : MS w3 D s := h2.fr f3 (fun y hy hb => by have := T3 _ _ _ hb (h2 y hy).1; simp at this) fun b u us hb hu e => by have := T3 _ _ _ hb hu; rw [e] at this; simp at this
  refine ⟨by rw [(h3 b hb).1.cell]; simp [ndc, hx], ?_⟩
  refine store_intro (i := 0) B3 (by simp) rfl fun w4 b4 f4 z4 => ?_
  have s3 := f3.size
  refine hk w4 (h3.fr f4 (fun y hy hb => by
    have hb : y = n6 := hb
    have := ((hb ▸ (h3 y hy).1).unique B3).1; simp at this) fun b u us hb hu e => by
    have hb : b = n6 := hb
    have hu' : Blk w3 n6 u us := by rw [← hb]; exact hu
    have := (hu'.unique B3).1; rw [e] at this; simp at this) ⟨p', l + 1, c', b4, ?_, fun b hb => ?_⟩ (by omega) ((((hy.fr0 f1).fr0 f2).fr f3 fun b u us hb hu e => by have := T3 _ _ _ hb hu; rw [e] at this; simp at this).fr f4 fun b u us hb hu e => by
    have hb : b = n6 := hb
    have hu' : Blk w3 n6 u us := by rw [← hb]; exact hu
    have := (hu'.unique B3).1; rw [e] at this; simp at this) ((((f1.mono fun _ h => h.elim).trans f2 fun _ h => h.elim).trans f3 fun b hb => .inl (hp b hb)).trans f4 fun b hb => .inl (by have hb : b = n6 := hb; show lo ≤ b; omega))
  · rw [List.map_append]
    refine O3.one.fr f4 fun b hb e => ?_
    obtain ⟨us, hu⟩ := O3.one.blk hb
    have e : b = n6 := e
    have hu' : Blk w3 n6 57 us := by rw [← e]; exact hu
    have := (hu'.unique B3).1; simp at this
  · rcases hp3 b hb with h | h
    · exact hp b h
    · omega
end
end Go.Proofs.Ythapmkjmfkmnoaa.E
