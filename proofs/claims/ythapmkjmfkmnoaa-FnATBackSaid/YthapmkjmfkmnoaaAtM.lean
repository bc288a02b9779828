/-
  Interval trees: the parts of delete, as what they do to a state.
-/
import Derived.Test.YthapmkjmfkmnoaaAtL
import Derived.Test.YthapmkjmfkmnoaaFnsC
namespace Go.Proofs.Ythapmkjmfkmnoaa.E
open Go
set_option linter.unusedSimpArgs false
set_option linter.unusedVariables false
set_option maxRecDepth 100000
set_option maxHeartbeats 8000000

def rd (s : St) (b : Nat) (v : Bool) : St := up s b { s b with red := v }
theorem rd_links (s : St) (b : Nat) (v : Bool) (y : Nat) : (rd s b v y).c0 = (s y).c0 ∧ (rd s b v y).c1 = (s y).c1 ∧ (rd s b v y).x = (s y).x := by
  unfold rd up; split
  · rename_i h; subst h; exact ⟨rfl, rfl, rfl⟩
  · exact ⟨rfl, rfl, rfl⟩
theorem ch_rd (s : St) (b : Nat) (v : Bool) (y d : Nat) : ch (rd s b v y) d = ch (s y) d := ch_of (rd_links s b v y).1 (rd_links s b v y).2.1 d
section
variable {w0 w : World} {tb : Nat} {D0 D : List Nat} {s : St} {o0 : Option Nat} {m num : Nat} {iv : Spn} {k : Value → W} {dm last sd b nb pb gb tt : Nat} {found pa : Option Addr} {x : Spn}
  {ag : Option Addr → Addr → Option Addr → Option Addr → Int → Int → Option Addr → Int → W}
theorem WS.rd {v : Bool} {w' : World} (h : WS w0 w tb D0 D s o0 m num iv) (hb : b ∈ D) (ms : MS w' D (up s b { s b with red := v })) (f : Fr (fun x => x = b) w w') : WS w0 w' tb D0 D (rd s b v) o0 m num iv := h.one hb ms f
/-- A round begins. -/
theorem L_head (h : WS w0 w tb D0 D s o0 m num iv) (hn : nb ∈ D) (hb : b ∈ D) (hd : last < 2) (hc : ch (s nb) last = some b) (hx : (s b).x = some x) (hsd : cmpS x.lo iv.lo x.id iv.id = sd)
    (hk : ∀ w', WS w0 w' tb D0 D s o0 m num iv → F41_J1 k ag (ta tb) ⟨dm, 0, none⟩ (if x.id = iv.id then some ⟨b, 0, none⟩ else found) (some ⟨nb, 0, none⟩) pa ((last : Nat) : Int) ((1 - sd : Nat) : Int) ((1 - last : Nat) : Int) ((iv.id : Nat) : Int) ((sd : Nat) : Int) (some ⟨b, 0, none⟩) iv.lo w') :
    F41_L1 k ag (ta tb) ⟨dm, 0, none⟩ found pa ((iv.id : Nat) : Int) ((last : Nat) : Int) (some ⟨nb, 0, none⟩) iv.lo w := by
  have ex : ((((s b).x.map Spn.id).getD 0 : Nat) : Int) = ((x.id : Nat) : Int) := by rw [hx]; rfl
  have hs2 : sd < 2 := by rw [← hsd]; exact cmp_two _ _
  unfold F41_L1
  simp only [NN_mk, add_mk, Nat.zero_add, Int.toNat_natCast]
  refine Req_iff.2 ⟨by omega, ld_ch h.ms hn hd ?_⟩
  rw [hc, show (!(oA (some b)).isNone) = true from rfl, BIf_true]
  refine F50_call (F50_spec hd (back_int (drw_intro fun w1 f1 z1 => ?_)))
  have h1 := h.fr0 f1
  refine Req_iff.2 ⟨by omega, ld_ch h1.ms hn hd ?_⟩
  rw [hc]
  refine drw_intro fun w2 f2 z2 => ?_
  have h2 := h1.fr0 f2
  simp only [oA_some, NN_mk, add_mk, Nat.zero_add]
  refine ld_x h2.ms hb hx (ld_id h2.ms hb ?_)
  rw [ex, show (1 : Int) = ((1 : Nat) : Int) from rfl]
  refine lo_intro (h2.x hb hx) (by decide) fun w3 f3 => ?_
  have h3 := h2.fr0 f3
  refine ⟨by rw [(h3.ms b hb).1.cell]; simp [ndc, hx], ?_⟩
  refine F51_call (F51_spec (back_int ?_))
  refine ⟨by rw [(h3.ms b hb).1.cell]; simp [ndc, hx], ?_⟩
  rw [show cmpS (plc x.lows 1) iv.lo x.id iv.id = sd from hsd]
  refine F50_call (F50_spec hs2 (back_int ?_))
  refine ld_id h3.ms hb ?_
  rw [ex]
  have := hk w3 h3
  by_cases e : x.id = iv.id
  · rw [show (((x.id : Nat) : Int) == ((iv.id : Nat) : Int)) = true by simp [e], BIf_true]
    rw [if_pos e] at this
    exact this
  · rw [show (((x.id : Nat) : Int) == ((iv.id : Nat) : Int)) = false by simp; omega, BIf_false]
    rw [if_neg e] at this
    exact this
variable {gp : Option Addr} {la od ol : Int}
theorem D1 (h : WS w0 w tb D0 D s o0 m num iv) (hb : b ∈ D) (hs : sd < 2) (kc : ∀ a, ch (s b) sd = some a → a ∈ D)
    (hk : F41_J2 k ag (ta tb) ⟨dm, 0, none⟩ found pa gp la od ol ((iv.id : Nat) : Int) ((sd : Nat) : Int) (some ⟨b, 0, none⟩) iv.lo (!(s b).red && !isRed s (ch (s b) sd)) w) :
    F41_J1 k ag (ta tb) ⟨dm, 0, none⟩ found pa gp la od ol ((iv.id : Nat) : Int) ((sd : Nat) : Int) (some ⟨b, 0, none⟩) iv.lo w := by
  unfold F41_J1
  refine F46_call (F46_spec (o := some b) h.ms (fun a e => by cases e; exact hb) (back_bool ?_))
  rw [show isRed s (some b) = (s b).red from rfl]
  cases hr : (s b).red with
  | true =>
    rw [hr] at hk
    rw [Bool.not_true, BIf_false]
    exact hk
  | false =>
    rw [hr] at hk
    rw [Bool.not_false, BIf_true]
    simp only [NN_mk, add_mk, Nat.zero_add, Int.toNat_natCast]
    refine Req_iff.2 ⟨by omega, ld_ch h.ms hb hs (F46_call (F46_spec h.ms kc (back_bool ?_)))⟩
    simpa using hk
theorem D2f (hk : ag (ta tb) ⟨dm, 0, none⟩ found pa ((iv.id : Nat) : Int) ((sd : Nat) : Int) (some ⟨b, 0, none⟩) iv.lo w) :
    F41_J2 k ag (ta tb) ⟨dm, 0, none⟩ found pa gp la od ol ((iv.id : Nat) : Int) ((sd : Nat) : Int) (some ⟨b, 0, none⟩) iv.lo false w := by
  unfold F41_J2
  rw [BIf_false]
  exact hk
/-- The other child is red. -/
theorem D2a {r : Nat} {Q : St → Prop} (h : WS w0 w tb D0 D s o0 m num iv) (hb : b ∈ D) (hp : pb ∈ D) (hs : sd < 2) (hl : last < 2) (kc : ∀ a, ch (s b) (1 - sd) = some a → a ∈ D) (hr : isRed s (ch (s b) (1 - sd)) = true)
    (hrot : ∀ (w1 : World) (K : Value → W), WS w0 w1 tb D0 D s o0 m num iv → (∀ w2 s2, WS w0 w2 tb D0 D s2 o0 m num iv → Q s2 → K (.pointer (some ⟨r, 0, none⟩)) w2) → F48 K (some ⟨b, 0, none⟩) ((sd : Nat) : Int) w1)
    (hk : ∀ w3 s2, Q s2 → WS w0 w3 tb D0 D (up s2 pb (setC (s2 pb) last (some r))) o0 m num iv → ag (ta tb) ⟨dm, 0, none⟩ found (some ⟨r, 0, none⟩) ((iv.id : Nat) : Int) ((sd : Nat) : Int) (some ⟨b, 0, none⟩) iv.lo w3) :
    F41_J2 k ag (ta tb) ⟨dm, 0, none⟩ found (some ⟨pb, 0, none⟩) gp ((last : Nat) : Int) ((1 - sd : Nat) : Int) ol ((iv.id : Nat) : Int) ((sd : Nat) : Int) (some ⟨b, 0, none⟩) iv.lo true w := by
  unfold F41_J2
  rw [BIf_true]
  simp only [NN_mk, add_mk, Nat.zero_add, Int.toNat_natCast]
  refine Req_iff.2 ⟨by omega, ld_ch h.ms hb (by omega) (F46_call (F46_spec h.ms kc (back_bool ?_)))⟩
  rw [hr, BIf_true]
  refine drw_intro fun w1 f1 z1 => F48_call ?_
  refine hrot w1 _ (h.fr0 f1) fun w2 s2 h2 q2 => back_ptr (Req_iff.2 ⟨by omega, ?_⟩)
  show Store1 ⟨pb, 3 + last, none⟩ (.pointer (oA (some r))) _ w2
  refine st_ch h2.ms hp hl fun w3 m3 f3 z3 => ?_
  have h3 := h2.one hp m3 f3
  refine Req_iff.2 ⟨by omega, ld_ch h3.ms hp hl ?_⟩
  rw [up_same, ch_setC]
  exact hk w3 s2 q2 h3
/-- No child is red, and there is no other tree. -/
theorem D2n (h : WS w0 w tb D0 D s o0 m num iv) (hb : b ∈ D) (hp : pb ∈ D) (hs : sd < 2) (hl : last < 2) (kc : ∀ a, ch (s b) (1 - sd) = some a → a ∈ D) (hr : isRed s (ch (s b) (1 - sd)) = false) (hn : ch (s pb) (1 - last) = none)
    (hk : ag (ta tb) ⟨dm, 0, none⟩ found (some ⟨pb, 0, none⟩) ((iv.id : Nat) : Int) ((sd : Nat) : Int) (some ⟨b, 0, none⟩) iv.lo w) :
    F41_J2 k ag (ta tb) ⟨dm, 0, none⟩ found (some ⟨pb, 0, none⟩) gp ((last : Nat) : Int) ((1 - sd : Nat) : Int) ((1 - last : Nat) : Int) ((iv.id : Nat) : Int) ((sd : Nat) : Int) (some ⟨b, 0, none⟩) iv.lo true w := by
  unfold F41_J2
  rw [BIf_true]
  simp only [NN_mk, add_mk, Nat.zero_add, Int.toNat_natCast]
  refine Req_iff.2 ⟨by omega, ld_ch h.ms hb (by omega) (F46_call (F46_spec h.ms kc (back_bool ?_)))⟩
  rw [hr, BIf_false]
  refine Req_iff.2 ⟨by omega, ld_ch h.ms hb (by omega) (F46_call (F46_spec h.ms kc (back_bool ?_)))⟩
  rw [hr, Bool.not_false, BIf_true]
  refine Req_iff.2 ⟨by omega, ld_ch h.ms hp (by omega) ?_⟩
  rw [hn, show (!(oA (none : Option Nat)).isNone) = false from rfl, BIf_false]
  exact hk
/-- No child is red, and there is another tree. -/
theorem D2t (h : WS w0 w tb D0 D s o0 m num iv) (hb : b ∈ D) (hp : pb ∈ D) (ht : tt ∈ D) (hs : sd < 2) (hl : last < 2) (kc : ∀ a, ch (s b) (1 - sd) = some a → a ∈ D) (hr : isRed s (ch (s b) (1 - sd)) = false) (hn : ch (s pb) (1 - last) = some tt)
    (kt : ∀ d a, d < 2 → ch (s tt) d = some a → a ∈ D)
    (hk : F41_J3 k ag (ta tb) ⟨dm, 0, none⟩ found (some ⟨pb, 0, none⟩) gp ((last : Nat) : Int) ((1 - last : Nat) : Int) ((iv.id : Nat) : Int) ((sd : Nat) : Int) (some ⟨b, 0, none⟩) iv.lo (some ⟨tt, 0, none⟩) (!isRed s (ch (s tt) (1 - last)) && !isRed s (ch (s tt) last)) w) :
    F41_J2 k ag (ta tb) ⟨dm, 0, none⟩ found (some ⟨pb, 0, none⟩) gp ((last : Nat) : Int) ((1 - sd : Nat) : Int) ((1 - last : Nat) : Int) ((iv.id : Nat) : Int) ((sd : Nat) : Int) (some ⟨b, 0, none⟩) iv.lo true w := by
  unfold F41_J2
  rw [BIf_true]
  simp only [NN_mk, add_mk, Nat.zero_add, Int.toNat_natCast]
  refine Req_iff.2 ⟨by omega, ld_ch h.ms hb (by omega) (F46_call (F46_spec h.ms kc (back_bool ?_)))⟩
  rw [hr, BIf_false]
  refine Req_iff.2 ⟨by omega, ld_ch h.ms hb (by omega) (F46_call (F46_spec h.ms kc (back_bool ?_)))⟩
  rw [hr, Bool.not_false, BIf_true]
  refine Req_iff.2 ⟨by omega, ld_ch h.ms hp (by omega) ?_⟩
  rw [hn, show (!(oA (some tt)).isNone) = true from rfl, BIf_true]
  simp only [oA_some, NN_mk, add_mk, Nat.zero_add]
  refine Req_iff.2 ⟨by omega, ld_ch h.ms ht (by omega) (F46_call (F46_spec h.ms (fun a => kt _ a (by omega)) (back_bool ?_)))⟩
  cases h1 : isRed s (ch (s tt) (1 - last)) with
  | true =>
    rw [h1] at hk
    rw [Bool.not_true, BIf_false]
    exact hk
  | false =>
    rw [h1] at hk
    rw [Bool.not_false, BIf_true]
    refine Req_iff.2 ⟨by omega, ld_ch h.ms ht hl (F46_call (F46_spec h.ms (fun a => kt _ a hl) (back_bool ?_)))⟩
    simpa using hk
theorem D3t (h : WS w0 w tb D0 D s o0 m num iv) (hb : b ∈ D) (hp : pb ∈ D) (ht : tt ∈ D)
    (hk : ∀ w', WS w0 w' tb D0 D (rd (rd (rd s pb false) b true) tt true) o0 m num iv → ag (ta tb) ⟨dm, 0, none⟩ found (some ⟨pb, 0, none⟩) ((iv.id : Nat) : Int) ((sd : Nat) : Int) (some ⟨b, 0, none⟩) iv.lo w') :
    F41_J3 k ag (ta tb) ⟨dm, 0, none⟩ found (some ⟨pb, 0, none⟩) gp la ol ((iv.id : Nat) : Int) ((sd : Nat) : Int) (some ⟨b, 0, none⟩) iv.lo (some ⟨tt, 0, none⟩) true w := by
  unfold F41_J3
  rw [BIf_true]
  simp only [NN_mk, add_mk, Nat.zero_add]
  refine st_red h.ms hp fun w1 m1 f1 z1 => ?_
  have h1 := h.rd hp m1 f1
  refine st_red h1.ms hb fun w2 m2 f2 z2 => ?_
  have h2 := h1.rd hb m2 f2
  exact st_red h2.ms ht fun w3 m3 f3 z3 => hk w3 (h2.rd ht m3 f3)
theorem D4 {r c0 c1 ld : Nat} (h : WS w0 w tb D0 D s o0 m num iv) (hb : b ∈ D) (hg : gb ∈ D) (hr : r ∈ D) (h0 : c0 ∈ D) (h1 : c1 ∈ D) (hld : ld < 2) (e : ch (s gb) ld = some r) (e0 : ch (s r) 0 = some c0) (e1 : ch (s r) 1 = some c1)
    (hk : ∀ w', WS w0 w' tb D0 D (rd (rd (rd (rd s b true) r true) c0 false) c1 false) o0 m num iv → ag (ta tb) ⟨dm, 0, none⟩ found pa ((iv.id : Nat) : Int) ((sd : Nat) : Int) (some ⟨b, 0, none⟩) iv.lo w') :
    F41_J4 k ag (ta tb) ⟨dm, 0, none⟩ found pa (some ⟨gb, 0, none⟩) ((iv.id : Nat) : Int) ((sd : Nat) : Int) (some ⟨b, 0, none⟩) iv.lo ((ld : Nat) : Int) w := by
  unfold F41_J4
  simp only [NN_mk, add_mk, Nat.zero_add, Int.toNat_natCast]
  rw [show ((0 : Int).toNat) = 0 from rfl, show ((1 : Int).toNat) = 1 from rfl]
  refine st_red h.ms hb fun w1 m1 f1 z1 => ?_
  have g1 := h.rd hb m1 f1
  refine Req_iff.2 ⟨by omega, ld_ch g1.ms hg hld ?_⟩
  rw [ch_rd, e]
  simp only [oA_some, NN_mk, add_mk, Nat.zero_add]
  refine st_red g1.ms hr fun w2 m2 f2 z2 => ?_
  have g2 := g1.rd hr m2 f2
  refine Req_iff.2 ⟨by omega, ld_ch g2.ms hg hld ?_⟩
  rw [ch_rd, ch_rd, e]
  simp only [oA_some, NN_mk, add_mk, Nat.zero_add]
  refine Req_iff.2 ⟨by decide, ld_ch (d := 0) g2.ms hr (by decide) ?_⟩
  rw [ch_rd, ch_rd, e0]
  simp only [oA_some, NN_mk, add_mk, Nat.zero_add]
  refine st_red g2.ms h0 fun w3 m3 f3 z3 => ?_
  have g3 := g2.rd h0 m3 f3
  refine Req_iff.2 ⟨by omega, ld_ch g3.ms hg hld ?_⟩
  rw [ch_rd, ch_rd, ch_rd, e]
  simp only [oA_some, NN_mk, add_mk, Nat.zero_add]
  refine Req_iff.2 ⟨by decide, ld_ch (d := 1) g3.ms hr (by decide) ?_⟩
  rw [ch_rd, ch_rd, ch_rd, e1]
  simp only [oA_some, NN_mk, add_mk, Nat.zero_add]
  exact st_red g3.ms h1 fun w4 m4 f4 z4 => hk w4 (g3.rd h1 m4 f4)
/-- The other tree has a red child: rotations at the parent. -/
theorem D3r {r ld : Nat} {dbl : Bool} {Q : St → Prop} (h : WS w0 w tb D0 D s o0 m num iv) (hg : gb ∈ D) (hp : pb ∈ D) (ht : tt ∈ D) (hl : last < 2) (kg : ∀ a, ch (s gb) 1 = some a → a ∈ D) (kt : ∀ d a, d < 2 → ch (s tt) d = some a → a ∈ D)
    (hld : (if ch (s gb) 1 = some pb then 1 else 0) = ld) (e1 : isRed s (ch (s tt) last) = dbl) (e2 : dbl = false → isRed s (ch (s tt) (1 - last)) = true)
    (hrot : ∀ (w1 : World) (K : Value → W), WS w0 w1 tb D0 D s o0 m num iv → (∀ w2 s2, WS w0 w2 tb D0 D s2 o0 m num iv → Q s2 → K (.pointer (some ⟨r, 0, none⟩)) w2) → if dbl = true then F49 K (some ⟨pb, 0, none⟩) ((last : Nat) : Int) w1 else F48 K (some ⟨pb, 0, none⟩) ((last : Nat) : Int) w1)
    (hk : ∀ w3 s2, Q s2 → WS w0 w3 tb D0 D (up s2 gb (setC (s2 gb) ld (some r))) o0 m num iv → F41_J4 k ag (ta tb) ⟨dm, 0, none⟩ found (some ⟨pb, 0, none⟩) (some ⟨gb, 0, none⟩) ((iv.id : Nat) : Int) ((sd : Nat) : Int) (some ⟨b, 0, none⟩) iv.lo ((ld : Nat) : Int) w3) :
    F41_J3 k ag (ta tb) ⟨dm, 0, none⟩ found (some ⟨pb, 0, none⟩) (some ⟨gb, 0, none⟩) ((last : Nat) : Int) ((1 - last : Nat) : Int) ((iv.id : Nat) : Int) ((sd : Nat) : Int) (some ⟨b, 0, none⟩) iv.lo (some ⟨tt, 0, none⟩) false w := by
  have hld2 : ld < 2 := by rw [← hld]; split <;> decide
  unfold F41_J3
  rw [BIf_false]
  simp only [NN_mk, add_mk, Nat.zero_add]
  rw [show ((1 : Int).toNat) = 1 from rfl]
  refine Req_iff.2 ⟨by decide, ld_ch (d := 1) h.ms hg (by decide) ?_⟩
  refine ptr_eql (y := some pb) (h.ms.known kg) (h.ms.known fun a e => by cases e; exact hp) ?_
  refine F47_call (F47_spec (back_int ?_))
  simp only [decide_eq_true_eq]
  rw [hld]
  simp only [Int.toNat_natCast]
  refine Req_iff.2 ⟨by omega, ld_ch h.ms ht hl (F46_call (F46_spec h.ms (fun a => kt _ a hl) (back_bool ?_)))⟩
  rw [e1]
  cases hdb : dbl with
  | true =>
    rw [BIf_true]
    refine drw_intro fun w1 f1 z1 => F49_call ?_
    have := hrot w1 (fun v => Back (.s (.one .ptr)) (fun p112 => Req (0 ≤ ((ld : Nat) : Int) ∧ ((ld : Nat) : Int) < 2) (Store1 ⟨gb, 3 + ld, none⟩ (.pointer p112) (F41_J4 k ag (ta tb) ⟨dm, 0, none⟩ found (some ⟨pb, 0, none⟩) (some ⟨gb, 0, none⟩) ((iv.id : Nat) : Int) ((sd : Nat) : Int) (some ⟨b, 0, none⟩) iv.lo ((ld : Nat) : Int)))) (.returned v)) (h.fr0 f1) fun w2 s2 h2 q2 => back_ptr (Req_iff.2 ⟨by omega, ?_⟩)
    · rw [if_pos hdb] at this
      exact this
    · show Store1 ⟨gb, 3 + ld, none⟩ (.pointer (oA (some r))) _ w2
      exact st_ch h2.ms hg hld2 fun w3 m3 f3 z3 => hk w3 s2 q2 (h2.one hg m3 f3)
  | false =>
    rw [BIf_false]
    refine Req_iff.2 ⟨by omega, ld_ch h.ms ht (by omega) (F46_call (F46_spec h.ms (fun a => kt _ a (by omega)) (back_bool ?_)))⟩
    rw [e2 hdb, BIf_true]
    refine drw_intro fun w1 f1 z1 => F48_call ?_
    have := hrot w1 (fun v => Back (.s (.one .ptr)) (fun p112 => Req (0 ≤ ((ld : Nat) : Int) ∧ ((ld : Nat) : Int) < 2) (Store1 ⟨gb, 3 + ld, none⟩ (.pointer p112) (F41_J4 k ag (ta tb) ⟨dm, 0, none⟩ found (some ⟨pb, 0, none⟩) (some ⟨gb, 0, none⟩) ((iv.id : Nat) : Int) ((sd : Nat) : Int) (some ⟨b, 0, none⟩) iv.lo ((ld : Nat) : Int)))) (.returned v)) (h.fr0 f1) fun w2 s2 h2 q2 => back_ptr (Req_iff.2 ⟨by omega, ?_⟩)
    · rw [if_neg (by rw [hdb]; decide)] at this
      exact this
    · show Store1 ⟨gb, 3 + ld, none⟩ (.pointer (oA (some r))) _ w2
      exact st_ch h2.ms hg hld2 fun w3 m3 f3 z3 => hk w3 s2 q2 (h2.one hg m3 f3)
end
end Go.Proofs.Ythapmkjmfkmnoaa.E
