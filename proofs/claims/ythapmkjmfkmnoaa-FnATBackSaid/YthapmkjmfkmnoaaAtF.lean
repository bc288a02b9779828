/-
  Interval trees: the parts of add, as what they do to a state.
-/
import Derived.Test.YthapmkjmfkmnoaaAtE
namespace Go.Proofs.Ythapmkjmfkmnoaa.E
open Go
set_option linter.unusedSimpArgs false
set_option linter.unusedVariables false
set_option maxRecDepth 100000
set_option maxHeartbeats 8000000

/-! ## Pointers compared -/
def Known (w : World) (x : Option Addr) : Prop := x = none ∨ ∃ b t vs, x = some ⟨b, 0, none⟩ ∧ Blk w b t vs
theorem und68 : Try.prog.underlying 68 = some (.pointer 71) := by kernel_rfl
theorem size71 (w : World) : (sizeOf 71).run Try.prog w = .ok 7 w := by kernel_rfl
theorem run_ptrs {x y : Option Addr} {w : World} (hx : Known w x) (hy : Known w y) : (Op.equal 68 (.pointer x) (.pointer y)).run Try.prog w = .ok (decide (x = y)) w := by
  show (Op.equalIn (9999 + 1) 68 _ _).run _ w = _
  unfold Op.equalIn
  rcases hx with rfl | ⟨b, t, vs, rfl, hb⟩
  · rcases hy with rfl | ⟨c, t, vs, rfl, hc⟩
    · simp [run_underlying und68]
    · simp [run_underlying und68]
  · rcases hy with rfl | ⟨c, t', vs', rfl, hc⟩
    · simp [run_underlying und68]
    · simp only [Sem.run_bind, run_underlying und68, Result.andThen_ok, size71]
      by_cases hbc : b = c
      · subst hbc
        simp [run_sameAddr_same]
      · have hne : (⟨b, 0, none⟩ : Addr) ≠ ⟨c, 0, none⟩ := fun h => by cases h; exact hbc rfl
        have := run_sameAddr_other (P := Try.prog) (w := w) hne hb hc
        simp [this, hbc]
theorem oA_inj {a b : Option Nat} : (oA a = oA b) ↔ a = b := by
  cases a <;> cases b <;> simp [oA]
theorem ptr_eql {x y : Option Nat} {a b : Operand} {K : Bool → W} {w : World} (hx : Known w (oA x)) (hy : Known w (oA y)) (hk : K (decide (x = y)) w) : RawS Try.prog (binS .eql 68 a b (.pointer (oA x)) (.pointer (oA y))) (.s (.one .bool)) K w := by
  refine ⟨(decide (oA x = oA y), ()), ?_, ?_⟩
  · have := run_ptrs hx hy
    unfold binS
    rw [Sem.run_bind, run_guard_ptr]
    simp [binOp, this]
    rfl
  · have : decide (oA x = oA y) = decide (x = y) := by simp only [oA_inj]
    show K (decide (oA x = oA y)) w
    rw [this]; exact hk
theorem MS.known {w : World} {D : List Nat} {s : St} (h : MS w D s) {o : Option Nat} (hb : ∀ b, o = some b → b ∈ D) : Known w (oA o) := by
  cases o with
  | none => exact .inl rfl
  | some b => exact .inr ⟨b, _, _, rfl, (h b (hb b rfl)).1⟩
/-! ## A tree in memory while it turns -/
def tcells (o : Option Nat) (m num : Nat) : List Value := [.pointer (oA o), .int .u64 ((m : Nat) : Int), .int .u64 ((num : Nat) : Int), .nilIface, .int .i64 0, .int .i64 0, .pointer none, .pointer none, .bool false, .int .u64 0]
structure WS (w0 w : World) (tb : Nat) (D0 D : List Nat) (s : St) (o : Option Nat) (m num : Nat) (iv : Spn) : Prop where
  ms : MS w D s
  tr : Blk w tb 74 (tcells o m num)
  sp : SpOk w iv
  fr : Fr (fun b => b = tb ∨ b ∈ D0) w0 w
  dd : ∀ b ∈ D, b ∈ D0 ∨ w0.heap.size ≤ b
section
variable {w0 w w' : World} {tb : Nat} {D0 D : List Nat} {s s' : St} {o : Option Nat} {m num : Nat} {iv : Spn} {k : Value → W}
theorem WS.upd {S : Nat → Prop} (h : WS w0 w tb D0 D s o m num iv) (ms' : MS w' D s') (f : Fr S w w') (hS : ∀ b, S b → b ∈ D) : WS w0 w' tb D0 D s' o m num iv := by
  refine ⟨ms', h.tr.fr f fun hb => ?_, h.sp.fr f fun b u us hb hu => ?_, h.fr.trans f fun b hb => ?_, h.dd⟩
  · have := ((h.ms tb (hS tb hb)).1.unique h.tr).1; simp at this
  · rw [(hu.unique (h.ms b (hS b hb)).1).1]; decide
  · rcases h.dd b (hS b hb) with h' | h'
    · exact .inl (.inr h')
    · exact .inr h'
theorem WS.fr0 (h : WS w0 w tb D0 D s o m num iv) (f : Fr (fun _ => False) w w') : WS w0 w' tb D0 D s o m num iv := h.upd (h.ms.fr0 f) f fun _ h => h.elim
theorem WS.one {b : Nat} (h : WS w0 w tb D0 D s o m num iv) (hb : b ∈ D) (ms' : MS w' D s') (f : Fr (fun x => x = b) w w') : WS w0 w' tb D0 D s' o m num iv := h.upd ms' f fun x hx => hx ▸ hb
theorem WS.tbu {o' : Option Nat} {m' num' : Nat} (h : WS w0 w tb D0 D s o m num iv) (b' : Blk w' tb 74 (tcells o' m' num')) (f : Fr (fun x => x = tb) w w') : WS w0 w' tb D0 D s o' m' num' iv := by
  have nT : ∀ {u : Nat} {us : List Value}, Blk w tb u us → u = 74 := fun hu => (hu.unique h.tr).1
  refine ⟨h.ms.fr f (fun b hb e => ?_) fun b u us e hu => ?_, b', h.sp.fr f fun b u us e hu => ?_, h.fr.trans f fun b e => .inl (.inl e), h.dd⟩
  · have := nT ((show b = tb from e) ▸ (h.ms b hb).1); simp at this
  · obtain rfl : b = tb := e
    rw [nT hu]; decide
  · obtain rfl : b = tb := e
    rw [nT hu]; decide
theorem WS.x (h : WS w0 w tb D0 D s o m num iv) {b : Nat} (hb : b ∈ D) {x : Spn} (hx : (s b).x = some x) : SpOk w x := (h.ms b hb).2 x hx
abbrev ta (tb : Nat) : Option Addr := some ⟨tb, 0, none⟩
variable {dm dir last b p g hb : Nat} {pa gp hp : Option Addr} {ag : Option Addr → Value → Addr → Option Addr → Option Addr → Option Addr → Int → Int → Int → Int → Int → Int → Option Addr → W} {x : Spn}
theorem J6 {r : Nat} (h : WS w0 w tb D0 D s o m num iv) (hdm : dm ∈ D) (hc : (s dm).c1 = some r) (hr : r ∈ D) (hk : ∀ w', WS w0 w' tb D0 D (up s r { s r with red := false }) (some r) m num iv → k (.tuple #[]) w') : F40_J6 k (ta tb) ⟨dm, 0, none⟩ w := by
  unfold F40_J6
  simp only [NN_mk, add_mk, Nat.zero_add]
  rw [show ((1 : Int).toNat) = 1 from rfl]
  refine Req_iff.2 ⟨by decide, ld_ch (d := 1) h.ms hdm (by decide) ?_⟩
  rw [show ch (s dm) 1 = some r from hc]
  refine store_intro (i := 0) h.tr (by simp [tcells]) rfl fun w1 b1 f1 z1 => ?_
  have h1 : WS w0 w1 tb D0 D s (some r) m num iv := h.tbu b1 f1
  refine load_ptr (i := 0) h1.tr rfl ?_
  simp only [oA_some, NN_mk, add_mk, Nat.zero_add]
  exact st_red h1.ms hr fun w2 h2 f2 z2 => hk w2 (h1.one hr h2 f2)
theorem J5 (h : WS w0 w tb D0 D s o m num iv) (hb : b ∈ D) (hx : (s b).x = some x) (hd : dir < 2) (h1 : x.id = iv.id → F40_J6 k (ta tb) ⟨dm, 0, none⟩ w)
    (h2 : x.id ≠ iv.id → ∀ w', WS w0 w' tb D0 D s o m num iv → ag (ta tb) iv.v ⟨dm, 0, none⟩ (some ⟨b, 0, none⟩) pa (oA (ch (s b) (cmpS x.lo iv.lo x.id iv.id))) ((cmpS x.lo iv.lo x.id iv.id : Nat) : Int) ((dir : Nat) : Int) ((1 - dir : Nat) : Int) ((iv.id : Nat) : Int) iv.hi iv.lo (if gp.isNone then hp else gp) w') :
    F40_J5 k ag (ta tb) iv.v ⟨dm, 0, none⟩ pa gp (some ⟨b, 0, none⟩) ((dir : Nat) : Int) ((iv.id : Nat) : Int) iv.hi iv.lo hp w := by
  have ex : ((((s b).x.map Spn.id).getD 0 : Nat) : Int) = ((x.id : Nat) : Int) := by rw [hx]; rfl
  unfold F40_J5
  simp only [NN_mk, add_mk, Nat.zero_add]
  refine ld_id h.ms hb ?_
  rw [ex]
  by_cases e : x.id = iv.id
  · rw [show (((x.id : Nat) : Int) == ((iv.id : Nat) : Int)) = true by simp [e], BIf_true]
    exact h1 e
  · rw [show (((x.id : Nat) : Int) == ((iv.id : Nat) : Int)) = false by simp; omega, BIf_false]
    refine F50_call (F50_spec hd (back_int (drw_intro fun w1 f1 z1 => ?_)))
    have s1 := h.fr0 f1
    refine ld_x s1.ms hb hx (ld_id s1.ms hb ?_)
    rw [ex, show (1 : Int) = ((1 : Nat) : Int) from rfl]
    refine lo_intro (s1.x hb hx) (by decide) fun w2 f2 => ?_
    have s2 := s1.fr0 f2
    refine ⟨by rw [(s2.ms b hb).1.cell]; simp [ndc, hx], ?_⟩
    refine F51_call (F51_spec (back_int ?_))
    refine ⟨by rw [(s2.ms b hb).1.cell]; simp [ndc, hx], ?_⟩
    have c2 : cmpS x.lo iv.lo x.id iv.id < 2 := by unfold cmpS; repeat' (split <;> try omega)
    have J7 : ∀ hp' : Option Addr, hp' = (if gp.isNone then hp else gp) → F40_J7 k ag (ta tb) iv.v ⟨dm, 0, none⟩ pa (some ⟨b, 0, none⟩) ((cmpS x.lo iv.lo x.id iv.id : Nat) : Int) ((dir : Nat) : Int) ((1 - dir : Nat) : Int) ((iv.id : Nat) : Int) iv.hi iv.lo hp' w2 := fun hp' e' => by
      unfold F40_J7
      refine drw_intro fun w3 f3 z3 => ?_
      have s3 := s2.fr0 f3
      simp only [NN_mk, add_mk, Nat.zero_add, Int.toNat_natCast]
      refine Req_iff.2 ⟨by omega, ld_ch s3.ms hb c2 ?_⟩
      rw [e']
      exact h2 e w3 s3
    cases hg : gp with
    | none =>
      rw [show (!(none : Option Addr).isNone) = false from rfl, BIf_false]
      exact J7 hp (by rw [hg]; rfl)
    | some a =>
      rw [show (!(some a : Option Addr).isNone) = true from rfl, BIf_true]
      exact J7 (some a) (by rw [hg]; rfl)
theorem J3 {po : Option Nat} (h : WS w0 w tb D0 D s o m num iv) (hpo : ∀ a, po = some a → a ∈ D) (hb : b ∈ D) {la ol : Int}
    (hk : F40_J4 k ag (ta tb) iv.v ⟨dm, 0, none⟩ (oA po) gp (some ⟨b, 0, none⟩) ((dir : Nat) : Int) la ol ((iv.id : Nat) : Int) iv.hi iv.lo hp (isRed s po && (s b).red) w) :
    F40_J3 k ag (ta tb) iv.v ⟨dm, 0, none⟩ (oA po) gp (some ⟨b, 0, none⟩) ((dir : Nat) : Int) la ol ((iv.id : Nat) : Int) iv.hi iv.lo hp w := by
  unfold F40_J3
  refine F46_call (F46_spec h.ms hpo (back_bool ?_))
  cases hr : isRed s po with
  | true =>
    rw [BIf_true]
    refine F46_call (F46_spec (o := some b) h.ms (fun a e => by cases e; exact hb) (back_bool ?_))
    rw [hr] at hk
    simpa [isRed] using hk
  | false =>
    rw [BIf_false]
    rw [hr] at hk
    simpa using hk
/-- The ends of a node on the way are widened. -/
def ext (s : St) (b : Nat) (iv : Spn) : St := up s b { s b with mx := if iv.hi > (s b).mx then iv.hi else (s b).mx, mn := if iv.lo < (s b).mn then iv.lo else (s b).mn }
theorem J1 {la ol : Int} (h : WS w0 w tb D0 D s o m num iv) (hb : b ∈ D)
    (hk : ∀ w', WS w0 w' tb D0 D (ext s b iv) o m num iv → F40_J3 k ag (ta tb) iv.v ⟨dm, 0, none⟩ pa gp (some ⟨b, 0, none⟩) ((dir : Nat) : Int) la ol ((iv.id : Nat) : Int) iv.hi iv.lo hp w') :
    F40_J1 k ag (ta tb) iv.v ⟨dm, 0, none⟩ pa gp (some ⟨b, 0, none⟩) ((dir : Nat) : Int) la ol ((iv.id : Nat) : Int) iv.hi iv.lo hp w := by
  have J2 : ∀ (w1 : World) (M : Int), M = (if iv.hi > (s b).mx then iv.hi else (s b).mx) → WS w0 w1 tb D0 D (up s b { s b with mx := M }) o m num iv → F40_J2 k ag (ta tb) iv.v ⟨dm, 0, none⟩ pa gp (some ⟨b, 0, none⟩) ((dir : Nat) : Int) la ol ((iv.id : Nat) : Int) iv.hi iv.lo hp w1 := fun w1 M hM h1 => by
    unfold F40_J2
    simp only [NN_mk, add_mk, Nat.zero_add]
    refine ld_mn h1.ms hb ?_
    rw [up_same]
    by_cases e : iv.lo < (s b).mn
    · rw [decide_eq_true e, BIf_true]
      refine st_mn h1.ms hb fun w2 h2 f2 z2 => hk w2 ?_
      rw [up_up, up_same] at h2
      unfold ext
      rw [if_pos e, ← hM]
      exact h1.one hb h2 f2
    · rw [decide_eq_false e, BIf_false]
      refine hk w1 ?_
      unfold ext
      rw [if_neg e, ← hM]
      exact h1
  unfold F40_J1
  simp only [NN_mk, add_mk, Nat.zero_add]
  refine ld_mx h.ms hb ?_
  by_cases e : iv.hi > (s b).mx
  · rw [decide_eq_true e, BIf_true]
    exact st_mx h.ms hb fun w2 h2 f2 z2 => J2 w2 _ (by rw [if_pos e]) (h.one hb h2 f2)
  · rw [decide_eq_false e, BIf_false]
    refine J2 w _ (by rw [if_neg e]) ?_
    rw [show ({ s b with mx := (s b).mx } : Nn) = s b from rfl, up_self]
    exact h
/-- Colours are flipped. -/
def flip (s : St) (b l r : Nat) : St := up (up (up s b { s b with red := true }) l { s l with red := false }) r { s r with red := false }
theorem J8t {la ol : Int} {l r : Nat} (h : WS w0 w tb D0 D s o m num iv) (hb : b ∈ D) (hl : l ∈ D) (hr : r ∈ D) (h0 : ch (s b) 0 = some l) (h1 : ch (s b) 1 = some r) (n1 : l ≠ b) (n2 : r ≠ b) (n3 : r ≠ l)
    (hk : ∀ w', WS w0 w' tb D0 D (flip s b l r) o m num iv → F40_J1 k ag (ta tb) iv.v ⟨dm, 0, none⟩ pa gp (some ⟨b, 0, none⟩) ((dir : Nat) : Int) la ol ((iv.id : Nat) : Int) iv.hi iv.lo hp w') :
    F40_J8 k ag (ta tb) iv.v ⟨dm, 0, none⟩ pa gp (some ⟨b, 0, none⟩) ((dir : Nat) : Int) la ol ((iv.id : Nat) : Int) iv.hi iv.lo hp true w := by
  unfold F40_J8
  rw [BIf_true]
  simp only [NN_mk, add_mk, Nat.zero_add]
  rw [show ((0 : Int).toNat) = 0 from rfl, show ((1 : Int).toNat) = 1 from rfl]
  refine st_red h.ms hb fun w1 m1 f1 z1 => ?_
  have s1 := h.one hb m1 f1
  refine Req_iff.2 ⟨by decide, ld_ch (d := 0) s1.ms hb (by decide) ?_⟩
  rw [up_same, show ch { s b with red := true } 0 = some l from h0]
  simp only [oA_some, NN_mk, add_mk, Nat.zero_add]
  refine st_red s1.ms hl fun w2 m2 f2 z2 => ?_
  rw [up_ne n1] at m2
  have s2 := s1.one hl m2 f2
  refine Req_iff.2 ⟨by decide, ld_ch (d := 1) s2.ms hb (by decide) ?_⟩
  rw [up_ne (Ne.symm n1), up_same, show ch { s b with red := true } 1 = some r from h1]
  simp only [oA_some, NN_mk, add_mk, Nat.zero_add]
  refine st_red s2.ms hr fun w3 m3 f3 z3 => ?_
  rw [up_ne n3, up_ne n2] at m3
  exact hk w3 (s2.one hr m3 f3)
theorem J8f {la ol : Int}
    (hk : F40_J1 k ag (ta tb) iv.v ⟨dm, 0, none⟩ pa gp (some ⟨b, 0, none⟩) ((dir : Nat) : Int) la ol ((iv.id : Nat) : Int) iv.hi iv.lo hp w) :
    F40_J8 k ag (ta tb) iv.v ⟨dm, 0, none⟩ pa gp (some ⟨b, 0, none⟩) ((dir : Nat) : Int) la ol ((iv.id : Nat) : Int) iv.hi iv.lo hp false w := by
  unfold F40_J8
  rw [BIf_false]
  exact hk
/-- A rotation: which one, and where it goes. -/
theorem J4 {r ld : Nat} {single : Bool} {Q : St → Prop} (h : WS w0 w tb D0 D s o m num iv) (hhb : hb ∈ D) (hg : g ∈ D) (hpD : p ∈ D) (hbD : b ∈ D) (hla : last < 2) (kh : ∀ a, ch (s hb) 1 = some a → a ∈ D) (kp : ∀ a, ch (s p) last = some a → a ∈ D)
    (hld : (if ch (s hb) 1 = some g then 1 else 0) = ld) (hs : decide (some b = ch (s p) last) = single)
    (hrot : ∀ (w1 : World) (K : Value → W), WS w0 w1 tb D0 D s o m num iv → (∀ w2 s2, WS w0 w2 tb D0 D s2 o m num iv → Q s2 → K (.pointer (some ⟨r, 0, none⟩)) w2) → if single = true then F48 K (some ⟨g, 0, none⟩) ((1 - last : Nat) : Int) w1 else F49 K (some ⟨g, 0, none⟩) ((1 - last : Nat) : Int) w1)
    (hk : ∀ w3 s2, Q s2 → WS w0 w3 tb D0 D (up s2 hb (setC (s2 hb) ld (some r))) o m num iv → F40_J5 k ag (ta tb) iv.v ⟨dm, 0, none⟩ (some ⟨p, 0, none⟩) (some ⟨g, 0, none⟩) (some ⟨b, 0, none⟩) ((dir : Nat) : Int) ((iv.id : Nat) : Int) iv.hi iv.lo (some ⟨hb, 0, none⟩) w3) :
    F40_J4 k ag (ta tb) iv.v ⟨dm, 0, none⟩ (some ⟨p, 0, none⟩) (some ⟨g, 0, none⟩) (some ⟨b, 0, none⟩) ((dir : Nat) : Int) ((last : Nat) : Int) ((1 - last : Nat) : Int) ((iv.id : Nat) : Int) iv.hi iv.lo (some ⟨hb, 0, none⟩) true w := by
  have hld2 : ld < 2 := by rw [← hld]; split <;> decide
  unfold F40_J4
  rw [BIf_true]
  simp only [NN_mk, add_mk, Nat.zero_add]
  rw [show ((1 : Int).toNat) = 1 from rfl]
  refine Req_iff.2 ⟨by decide, ld_ch (d := 1) h.ms hhb (by decide) ?_⟩
  refine ptr_eql (y := some g) (h.ms.known kh) (h.ms.known fun a e => by cases e; exact hg) ?_
  refine F47_call (F47_spec (back_int ?_))
  simp only [decide_eq_true_eq]
  rw [hld]
  simp only [Int.toNat_natCast]
  refine Req_iff.2 ⟨by omega, ld_ch h.ms hpD hla ?_⟩
  refine ptr_eql (x := some b) (h.ms.known fun a e => by cases e; exact hbD) (h.ms.known kp) ?_
  rw [hs]
  cases single with
  | true =>
    rw [BIf_true]
    refine drw_intro fun w1 f1 z1 => F48_call ?_
    have := hrot w1 (fun v => Back (.s (.one .ptr)) (fun p117 => Req (0 ≤ ((ld : Nat) : Int) ∧ ((ld : Nat) : Int) < 2) (Store1 ⟨hb, 3 + ld, none⟩ (.pointer p117) (F40_J5 k ag (ta tb) iv.v ⟨dm, 0, none⟩ (some ⟨p, 0, none⟩) (some ⟨g, 0, none⟩) (some ⟨b, 0, none⟩) ((dir : Nat) : Int) ((iv.id : Nat) : Int) iv.hi iv.lo (some ⟨hb, 0, none⟩)))) (.returned v)) (h.fr0 f1) fun w2 s2 h2 q2 => back_ptr (Req_iff.2 ⟨by omega, ?_⟩)
    · exact this
    · show Store1 ⟨hb, 3 + ld, none⟩ (.pointer (oA (some r))) _ w2
      exact st_ch h2.ms hhb hld2 fun w3 m3 f3 z3 => hk w3 s2 q2 (h2.one hhb m3 f3)
  | false =>
    rw [BIf_false]
    refine drw_intro fun w1 f1 z1 => F49_call ?_
    have := hrot w1 (fun v => Back (.s (.one .ptr)) (fun p117 => Req (0 ≤ ((ld : Nat) : Int) ∧ ((ld : Nat) : Int) < 2) (Store1 ⟨hb, 3 + ld, none⟩ (.pointer p117) (F40_J5 k ag (ta tb) iv.v ⟨dm, 0, none⟩ (some ⟨p, 0, none⟩) (some ⟨g, 0, none⟩) (some ⟨b, 0, none⟩) ((dir : Nat) : Int) ((iv.id : Nat) : Int) iv.hi iv.lo (some ⟨hb, 0, none⟩)))) (.returned v)) (h.fr0 f1) fun w2 s2 h2 q2 => back_ptr (Req_iff.2 ⟨by omega, ?_⟩)
    · exact this
    · show Store1 ⟨hb, 3 + ld, none⟩ (.pointer (oA (some r))) _ w2
      exact st_ch h2.ms hhb hld2 fun w3 m3 f3 z3 => hk w3 s2 q2 (h2.one hhb m3 f3)
theorem J4f {la ol : Int} (hk : F40_J5 k ag (ta tb) iv.v ⟨dm, 0, none⟩ pa gp (some ⟨b, 0, none⟩) ((dir : Nat) : Int) ((iv.id : Nat) : Int) iv.hi iv.lo hp w) :
    F40_J4 k ag (ta tb) iv.v ⟨dm, 0, none⟩ pa gp (some ⟨b, 0, none⟩) ((dir : Nat) : Int) la ol ((iv.id : Nat) : Int) iv.hi iv.lo hp false w := by
  unfold F40_J4
  rw [BIf_false]
  exact hk
/-- A new node. -/
theorem F45_spec {n : Nat} (h : WS w0 w tb D0 D s o m n iv)
    (hk : ∀ w' b, b ∉ D → b ≠ tb → w0.heap.size ≤ b → WS w0 w' tb D0 (b :: D) (up s b ⟨some iv, iv.hi, iv.lo, none, none, true⟩) o m n iv → k (.pointer (some ⟨b, 0, none⟩)) w') : F45 k iv.v iv.lo iv.hi 1 w := by
  unfold F45
  refine Req_iff.2 ⟨rfl, ?_⟩
  refine new_intro fun b w1 e1 b1 f1 z1 => ?_
  have h1 := h.fr0 f1
  have hbD : b ∉ D := fun hb => by have := (h.ms b hb).1.lt; omega
  have hbt : b ≠ tb := fun e => by have := h.tr.lt; omega
  have hsz : w0.heap.size ≤ b := by have := h.fr.size; omega
  rw [IfaceNil_v, Bool.not_false, BIf_true]
  refine id_intro fun w2 f2 => ?_
  have h2 := h1.fr0 f2
  have b2 := b1.fr f2 id
  refine store_intro (i := 6) b2 (by simp) rfl fun w3 b3 f3 z3 => ?_
  have n3 : ∀ b' u us, b' = b → Blk w2 b' u us → u ≠ 2 := fun y u us e hu => by
    have hu' : Blk w2 b u us := by rw [← e]; exact hu
    rw [(hu'.unique b2).1]; decide
  refine hk w3 b hbD hbt hsz ⟨fun y hy => ?_, h2.tr.fr f3 fun e => hbt (Eq.symm e), h2.sp.fr f3 n3, h2.fr.trans f3 fun y e => ?_, fun y hy => ?_⟩
  · by_cases e : y = b
    · subst e
      rw [up_same]
      refine ⟨b3, fun x hx => ?_⟩
      cases hx
      exact h2.sp.fr f3 n3
    · rw [up_ne e]
      have hy' : y ∈ D := by
        rcases List.mem_cons.1 hy with h | h
        · exact absurd h e
        · exact h
      exact ⟨(h2.ms y hy').1.fr f3 e, fun x hx => ((h2.ms y hy').2 x hx).fr f3 n3⟩
  · have e : y = b := e
    exact .inr (by omega)
  · rcases List.mem_cons.1 hy with h' | h'
    · exact .inr (by omega)
    · exact h.dd y h'
end
end Go.Proofs.Ythapmkjmfkmnoaa.E
