/-
  Interval trees: the end of delete.
-/
import Derived.Test.YthapmkjmfkmnoaaAtO
namespace Go.Proofs.Ythapmkjmfkmnoaa.E
open Go
set_option linter.unusedSimpArgs false
set_option linter.unusedVariables false
set_option maxRecDepth 100000
set_option maxHeartbeats 8000000

/-! ## A node takes over what another one holds -/
def reN (f : Nat) (p n : Nd) : Nd := if n.b = f then { n with x := p.x, mx := p.mx, mn := p.mn } else n
theorem re_b (f : Nat) (p n : Nd) : (reN f p n).b = n.b := by unfold reN; split <;> rfl
theorem re_red (f : Nat) (p n : Nd) : (reN f p n).red = n.red := by unfold reN; split <;> rfl
theorem re_ne {f : Nat} {p n : Nd} (h : n.b ≠ f) : reN f p n = n := if_neg h
def CT.re (f : Nat) (p : Nd) : CT → CT
  | lf => lf
  | nd l n r => nd (l.re f p) (reN f p n) (r.re f p)
def Cx.re (f : Nat) (p : Nd) : Cx → Cx
  | top => top
  | fr c d n o => fr (c.re f p) d (reN f p n) (o.re f p)
theorem ct_re_nds (f : Nat) (p : Nd) : ∀ t : CT, (t.re f p).nds = t.nds.map (reN f p)
  | .lf => rfl
  | .nd l n r => by simp [CT.re, CT.nds, ct_re_nds f p l, ct_re_nds f p r]
theorem ct_re_sh (f : Nat) (p : Nd) : ∀ t : CT, (t.re f p).sh = t.sh
  | .lf => rfl
  | .nd l n r => by simp [CT.re, CT.sh, ct_re_sh f p l, ct_re_sh f p r, re_b]
theorem ct_re_red (f : Nat) (p : Nd) (t : CT) : (t.re f p).red = t.red := by
  cases t with
  | lf => rfl
  | nd l n r => exact re_red f p n
theorem ct_re_blk (f : Nat) (p : Nd) (t : CT) : (t.re f p).blk = t.blk := by
  cases t with
  | lf => rfl
  | nd l n r => exact congrArg some (re_b f p n)
theorem ct_re_RB (f : Nat) (p : Nd) : ∀ (t : CT) (K : Nat), (t.re f p).RB K ↔ t.RB K
  | .lf, K => Iff.rfl
  | .nd l n r, K => by simp only [CT.re, CT.RB, re_red, ct_re_RB f p l, ct_re_RB f p r, ct_re_red]
theorem cx_re_RB (f : Nat) (p : Nd) : ∀ (c : Cx) (v : Bool) (K : Nat), (c.re f p).RB v K ↔ c.RB v K
  | .top, v, K => Iff.rfl
  | .fr c d n o, v, K => by simp only [Cx.re, Cx.RB, re_red, ct_re_RB, cx_re_RB f p c, ct_re_red]
theorem cx_re_pre (f : Nat) (p : Nd) : ∀ c : Cx, (c.re f p).pre = c.pre.map (reN f p)
  | .top => rfl
  | .fr c d n o => by
    simp only [Cx.re, Cx.pre, cx_re_pre f p c, ct_re_nds, List.map_append]
    split <;> simp
theorem cx_re_post (f : Nat) (p : Nd) : ∀ c : Cx, (c.re f p).post = c.post.map (reN f p)
  | .top => rfl
  | .fr c d n o => by
    simp only [Cx.re, Cx.post, cx_re_post f p c, ct_re_nds, List.map_append]
    split <;> simp
theorem cx_re_blk (f : Nat) (p : Nd) (dm : Nat) (c : Cx) : (c.re f p).blk dm = c.blk dm := by
  cases c with
  | top => rfl
  | fr c d n o => exact re_b f p n
theorem cx_re_dir (f : Nat) (p : Nd) (c : Cx) : (c.re f p).dir = c.dir := by
  cases c <;> rfl
theorem ct_re_bls (f : Nat) (p : Nd) (t : CT) : (t.re f p).bls = t.bls := by
  unfold CT.bls
  rw [ct_re_nds, List.map_map]
  exact List.map_congr_left fun n _ => re_b f p n
theorem cx_re_bls (f : Nat) (p : Nd) : ∀ c : Cx, (c.re f p).bls = c.bls
  | .top => rfl
  | .fr c d n o => by
    show (Cx.fr (c.re f p) d (reN f p n) (o.re f p)).bls = _
    rw [fr_bls, fr_bls, re_b, ct_re_bls, cx_re_bls f p c]
def took (s : St) (f : Nat) (p : Nd) : St := up s f { s f with x := some p.x, mx := p.mx, mn := p.mn }
theorem took_links (s : St) (f : Nat) (p : Nd) (y : Nat) : (took s f p y).c0 = (s y).c0 ∧ (took s f p y).c1 = (s y).c1 ∧ (took s f p y).red = (s y).red := by
  unfold took up; split
  · rename_i h; subst h; exact ⟨rfl, rfl, rfl⟩
  · exact ⟨rfl, rfl, rfl⟩
theorem ch_took (s : St) (f : Nat) (p : Nd) (y d : Nat) : ch (took s f p y) d = ch (s y) d := ch_of (took_links s f p y).1 (took_links s f p y).2.1 d
theorem Hd.took {s : St} {f : Nat} {p n : Nd} (h : Hd (s n.b) n) : Hd (took s f p n.b) (reN f p n) := by
  unfold E.took reN
  by_cases e : n.b = f
  · rw [if_pos e, ← e, up_same]; exact ⟨rfl, rfl, rfl, h.2.2.2⟩
  · rw [if_neg e, up_ne e]; exact h
theorem RepT.took {s : St} {o : Option Nat} {t : CT} {f : Nat} {p : Nd} (h : RepT s o t) : RepT (took s f p) o (t.re f p) := by
  refine ⟨?_, fun n hn => ?_⟩
  · rw [ct_re_sh]
    exact h.1.frame fun b _ => ⟨(took_links s f p b).1, (took_links s f p b).2.1⟩
  · rw [ct_re_nds] at hn
    obtain ⟨q, hq, rfl⟩ := List.mem_map.1 hn
    rw [re_b]
    exact (h.2 q hq).took
theorem CxR.took {s : St} {dm f : Nat} {p : Nd} : ∀ {c : Cx} {o : Option Nat}, CxR s dm c o → CxR (took s f p) dm (c.re f p) o
  | .top, o, h => by
    show (E.took s f p dm).c1 = o
    rw [(took_links s f p dm).2.1]; exact h
  | .fr c d n t, o, ⟨h0, h1, h2, h3, h4⟩ => by
    refine ⟨h0, ?_, ?_, ?_, ?_⟩
    · rw [re_b, ch_took]; exact h1
    · rw [re_b]; exact h2.took
    · rw [re_b, ch_took]; exact h3.took
    · rw [re_b]; exact CxR.took h4
theorem map_re {f : Nat} {p : Nd} {l : List Nd} (h : ∀ n ∈ l, n.b ≠ f) : l.map (reN f p) = l := by
  have : l.map (reN f p) = l.map id := List.map_congr_left fun n hn => re_ne (h n hn)
  rw [this, List.map_id]
section
variable {w0 w : World} {tb : Nat} {D0 D : List Nat} {s : St} {o0 : Option Nat} {m num : Nat} {iv : Spn} {k : Value → W} {dm d sd : Nat} {Lb : List (Nat × Spn)} {c : Cx} {L : List Spn} {found pa : Option Addr}
  {ag : Option Addr → Addr → Option Addr → Option Addr → Int → Int → Option Addr → Int → W}
/-- The root is set, and black. -/
theorem D5 {o' : Option Nat} (h : WS w0 w tb D0 D s o0 m num iv) (hdm : dm ∈ D) (hc : (s dm).c1 = o') (ho : ∀ r, o' = some r → r ∈ D) (hk : ∀ w', WS w0 w' tb D0 D (match o' with | none => s | some r => rd s r false) o' m num iv → k (.tuple #[]) w') : F41_J5 k (ta tb) ⟨dm, 0, none⟩ w := by
  unfold F41_J5
  simp only [NN_mk, add_mk, Nat.zero_add]
  rw [show ((1 : Int).toNat) = 1 from rfl]
  refine Req_iff.2 ⟨by decide, ld_ch (d := 1) h.ms hdm (by decide) ?_⟩
  rw [show ch (s dm) 1 = o' from hc]
  refine store_intro (i := 0) h.tr (by simp [tcells]) rfl fun w1 b1 f1 z1 => ?_
  have h1 : WS w0 w1 tb D0 D s o' m num iv := h.tbu b1 f1
  refine load_ptr (i := 0) h1.tr rfl ?_
  cases o' with
  | none =>
    rw [show (!(oA (none : Option Nat)).isNone) = false from rfl, BIf_false]
    exact hk w1 h1
  | some r =>
    rw [show (!(oA (some r)).isNone) = true from rfl, BIf_true]
    refine load_ptr (i := 0) h1.tr rfl ?_
    simp only [oA_some, NN_mk, add_mk, Nat.zero_add]
    exact st_red h1.ms (ho r rfl) fun w2 h2 f2 z2 => hk w2 (h1.rd (ho r rfl) h2 f2)
/-- What was found is taken out. -/
theorem D_end {fb gb ld : Nat} {p : Nd} {oo : Option Nat} (h : WS w0 w tb D0 D s o0 m num iv) (hfb : fb ∈ D) (hnb : p.b ∈ D) (hgb : gb ∈ D) (hh : Hd (s p.b) p) (hn1 : 1 ≤ num) (hn2 : num < 1000000000) (hl : d < 2) (hc : ch (s p.b) d = none)
    (kg : ∀ a, ch (s gb) 1 = some a → a ∈ D) (hloc : (if ch (s gb) 1 = some p.b then 1 else 0) = ld) (hoo : ch (s p.b) (if (oA (ch (s p.b) 0)).isNone = true then 1 else 0) = oo)
    (hk : ∀ w', WS w0 w' tb D0 D (up (took s fb p) gb (setC (took s fb p gb) ld oo)) o0 m (num - 1) iv → F41_J5 k (ta tb) ⟨dm, 0, none⟩ w') :
    F41_L1 k ag (ta tb) ⟨dm, 0, none⟩ (some ⟨fb, 0, none⟩) (some ⟨gb, 0, none⟩) ((iv.id : Nat) : Int) ((d : Nat) : Int) (some ⟨p.b, 0, none⟩) iv.lo w := by
  have hld2 : ld < 2 := by rw [← hloc]; split <;> decide
  have ei : ((((s p.b).x.map Spn.id).getD 0 : Nat) : Int) = ((p.x.id : Nat) : Int) := by rw [hh.1]; rfl
  unfold F41_L1
  simp only [NN_mk, add_mk, Nat.zero_add, Int.toNat_natCast]
  rw [show ((0 : Int).toNat) = 0 from rfl, show ((1 : Int).toNat) = 1 from rfl]
  refine Req_iff.2 ⟨by omega, ld_ch h.ms hnb hl ?_⟩
  rw [hc, show (!(oA (none : Option Nat)).isNone) = false from rfl, BIf_false, show (!(some (⟨fb, 0, none⟩ : Addr)).isNone) = true from rfl, BIf_true]
  refine load_int (i := 2) h.tr rfl ?_
  rw [subI_u64 (by omega) (by omega), show ((num : Nat) : Int) - 1 = ((num - 1 : Nat) : Int) by omega]
  refine store_intro (i := 2) h.tr (by simp [tcells]) rfl fun w1 b1 f1 z1 => ?_
  have h1 : WS w0 w1 tb D0 D s o0 m (num - 1) iv := h.tbu b1 f1
  refine drw_intro fun w2 f2 z2 => ?_
  have h2 := h1.fr0 f2
  refine ld_x h2.ms hnb hh.1 (ld_mx h2.ms hnb (ld_mn h2.ms hnb (ld_id h2.ms hnb ?_)))
  rw [hh.2.1, hh.2.2.1, ei]
  have B := (h2.ms fb hfb).1
  refine Req_iff.2 ⟨rfl, store_intro (i := 0) B (by simp [ndc]) rfl fun w3 b3 f3 z3 => ?_⟩
  refine store_intro (i := 1) b3 (by simp [ndc]) rfl fun w4 b4 f4 z4 => ?_
  refine store_intro (i := 2) b4 (by simp [ndc]) rfl fun w5 b5 f5 z5 => ?_
  refine store_intro (i := 6) b5 (by simp [ndc]) rfl fun w6 b6 f6 z6 => ?_
  have i : ∀ x, x = fb → x = fb ∨ w2.heap.size ≤ x := fun _ h => .inl h
  have f : Fr (fun x => x = fb) w2 w6 := ((f3.trans f4 i).trans f5 i).trans f6 i
  have n3 : ∀ b' u us, b' = fb → Blk w2 b' u us → u ≠ 2 := fun y u us e hu => by
    have hu' : Blk w2 fb u us := by rw [← e]; exact hu
    rw [(hu'.unique B).1]; decide
  have spP : SpOk w2 p.x := (h2.ms p.b hnb).2 p.x hh.1
  have m6 : MS w6 D (took s fb p) := fun y hy => by
    unfold took
    by_cases e : y = fb
    · subst e
      rw [up_same]
      refine ⟨b6, fun x hx => ?_⟩
      have hx : some p.x = some x := hx
      cases hx
      exact spP.fr f n3
    · rw [up_ne e]
      exact ⟨(h2.ms y hy).1.fr f e, fun x hx => ((h2.ms y hy).2 x hx).fr f n3⟩
  have h6 : WS w0 w6 tb D0 D (took s fb p) o0 m (num - 1) iv := h2.one hfb m6 f
  refine Req_iff.2 ⟨by decide, ld_ch (d := 1) h6.ms hgb (by decide) ?_⟩
  rw [ch_took]
  refine ptr_eql (y := some p.b) (h6.ms.known kg) (h6.ms.known fun a e => by cases e; exact hnb) ?_
  refine F47_call (F47_spec (back_int ?_))
  simp only [decide_eq_true_eq]
  rw [hloc]
  refine Req_iff.2 ⟨by decide, ld_ch (d := 0) h6.ms hnb (by decide) ?_⟩
  rw [ch_took]
  refine F47_call (F47_spec (back_int ?_))
  refine drw_intro fun w7 f7 z7 => ?_
  have h7 := h6.fr0 f7
  simp only [Int.toNat_natCast]
  have hcd : (if (oA (ch (s p.b) 0)).isNone = true then 1 else 0) < 2 := by split <;> decide
  refine Req_iff.2 ⟨by omega, ld_ch h7.ms hnb hcd ?_⟩
  rw [ch_took, hoo]
  refine Req_iff.2 ⟨by omega, st_ch h7.ms hgb hld2 fun w8 m8 f8 z8 => hk w8 (h7.one hgb m8 f8)⟩
end
end Go.Proofs.Ythapmkjmfkmnoaa.E
