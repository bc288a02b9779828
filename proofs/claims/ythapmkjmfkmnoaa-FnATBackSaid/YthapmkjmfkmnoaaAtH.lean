/-
  Interval trees: a node on the way of add.
-/
import Derived.Test.YthapmkjmfkmnoaaAtG
namespace Go.Proofs.Ythapmkjmfkmnoaa.E
open Go
set_option linter.unusedSimpArgs false
set_option linter.unusedVariables false
set_option maxRecDepth 100000
set_option maxHeartbeats 8000000

namespace Cx
def par : Cx → Option Nat
  | top => none
  | fr _ _ p _ => some p.b
def pred : Cx → Bool
  | top => false
  | fr _ _ p _ => p.red
theorem RB.lift {c : Cx} {rd : Bool} {n : Nat} (h : c.RB false n) (hr : (c.pred && rd) = false) : c.RB rd n := by
  cases c with
  | top => trivial
  | fr c d p o =>
    obtain ⟨h1, h2, h3⟩ := h
    refine ⟨h1, fun hp => ?_, h3⟩
    have e : (p.red && rd) = false := hr
    rw [hp, Bool.true_and] at e
    exact ⟨e, (h2 hp).2⟩
end Cx
/-- Not red, with no red child, and there. -/
def Bt : CT → Prop
  | .lf => False
  | .nd l n r => n.red = false ∧ l.red = false ∧ r.red = false
def Cx.Au : Cx → Prop
  | .top => False
  | .fr _ _ g o => g.red = false ∧ o.red = false
def VarOk (dm : Nat) (gp hp : Option Addr) (lN : Nat) : Cx → Prop
  | .top => gp = none ∧ hp = some ⟨dm, 0, none⟩
  | .fr c2 d2 g o2 => gp = some ⟨g.b, 0, none⟩ ∧ lN = d2 ∧ hp = some ⟨c2.blk dm, 0, none⟩
section
variable {w0 w : World} {tb : Nat} {D0 D : List Nat} {s : St} {o0 : Option Nat} {m num : Nat} {iv : Spn} {k : Value → W} {dm : Nat} {Lb : List (Nat × Spn)} {dN lN : Nat} {pa gp hp : Option Addr}
  {ag : Option Addr → Value → Addr → Option Addr → Option Addr → Option Addr → Int → Int → Int → Int → Int → Int → Option Addr → W} {c : Cx} {t : CT}
theorem CxR.par_red {o : Option Nat} (h : CxR s dm c o) : isRed s c.par = c.pred := by
  cases c with
  | top => rfl
  | fr c d p t => exact h.2.2.1.2.2.2
theorem CxR.par_mem (h : ∀ b ∈ c.bls, b ∈ D) : ∀ a, c.par = some a → a ∈ D := fun a ha => by
  cases c with
  | top => cases ha
  | fr c d p t => cases ha; exact h _ (by rw [fr_bls]; exact List.mem_cons_self)
theorem nd_mk (l r : CT) (n : Nd) : CT.nd l n r = CT.mk 0 l n r := rfl
/-- The root of a place is turned (not its links, nor its interval). -/
theorem Plc.root {l r : CT} {n n' : Nd} {s' : St} (h : Plc s dm Lb c (.nd l n r)) (lk : Lok D dm Lb) (hs : ∀ b, b ≠ n.b → s' b = s b) (h0 : (s' n.b).c0 = (s n.b).c0) (h1 : (s' n.b).c1 = (s n.b).c1) (hb : n'.b = n.b) (hx : n'.x = n.x) (hh : Hd (s' n.b) n') : Plc s' dm Lb c (.nd l n' r) := by
  obtain ⟨nT, nC, nX⟩ := sp_nodup (h.nodup lk)
  have hn := nX n.b (by rw [nd_mk]; exact mk_mem.2 (.inl rfl))
  have rt := h.rt
  have e : (CT.nd l n r).blk = some n.b := rfl
  have e' : (CT.nd l n' r).blk = some n.b := by show some n'.b = _; rw [hb]
  rw [e, nd_mk] at rt
  obtain ⟨-, g1, g2, g3⟩ := (RepT.mk_iff (by decide)).1 rt
  rw [nd_mk] at nT
  have np := (CT.mk_bls 0 l r n).nodup_iff.1 nT
  have nl : n.b ∉ l.bls := fun hm => (List.nodup_cons.1 np).1 (List.mem_append_left _ hm)
  have nr : n.b ∉ r.bls := fun hm => (List.nodup_cons.1 np).1 (List.mem_append_right _ hm)
  refine ⟨?_, ?_, ?_⟩
  · rw [e']; have := h.cx; rw [e] at this
    exact this.frame (fun b hb' => hs b fun e => hn.1 (e ▸ hb')) (hs dm fun e => hn.2 e.symm)
  · rw [e', nd_mk]
    refine (RepT.mk_iff (by decide)).2 ⟨hb, by rw [hb]; exact hh, ?_, ?_⟩
    · rw [hb]; show RepT s' (s' n.b).c0 l; rw [h0]; exact g2.frame fun b hb' => hs b fun e => nl (e ▸ hb')
    · rw [hb]; show RepT s' (s' n.b).c1 r; rw [h1]; exact g3.frame fun b hb' => hs b fun e => nr (e ▸ hb')
  · have : (CT.nd l n' r).nds.map bx = (CT.nd l n r).nds.map bx := by simp [CT.nds, bx_of hb hx]
    rw [plug_congr this]; exact h.eq
theorem bnd_root {l r : CT} {n n' : Nd} (h : BndT (.nd l n r)) (hx : n'.x = n.x) (h1 : n.mx ≤ n'.mx) (h2 : n'.mn ≤ n.mn) : BndT (.nd l n' r) := by
  obtain ⟨g1, g2, g3⟩ := h
  refine ⟨fun x hx' => ?_, g2, g3⟩
  have : (CT.nd l n' r).xs = (CT.nd l n r).xs := by unfold CT.xs; simp [CT.nds, hx]
  rw [this] at hx'
  have := g1 x hx'
  omega
theorem xs_root {l r : CT} {n n' : Nd} (hx : n'.x = n.x) : (CT.nd l n' r).xs = (CT.nd l n r).xs := by unfold CT.xs; simp [CT.nds, hx]
theorem rb_root {l r : CT} {n n' : Nd} {K : Nat} (hx : n'.red = n.red) : (CT.nd l n' r).RB K ↔ (CT.nd l n r).RB K := by simp only [CT.RB, hx]
/-- A node on the way of add: its ends are widened, and what is red twice is turned. -/
theorem add_node {l r : CT} {n : Nd} {K : Nat} (h : WS w0 w tb D0 D s o0 m num iv) (lk : Lok D dm Lb) (pl : Plc s dm Lb c (.nd l n r)) (rb : (CT.nd l n r).RB K) (crb : c.RB false K)
    (bn : BndT (.nd l n r)) (cbn : c.Bnd (CT.nd l n r).xs) (ex : ∀ f ∈ c.frs, iv.hi ≤ f.mx ∧ f.mn ≤ iv.lo) (hpa : pa = oA c.par) (hd : dN < 2) (hl : lN < 2)
    (hrot : c.pred = true → n.red = true → ∃ c2 d2 g o2 d p o, c = .fr (.fr c2 d2 g o2) d p o ∧ g.red = false ∧ o2.red = false ∧ gp = some ⟨g.b, 0, none⟩ ∧ lN = d2 ∧ hp = some ⟨c2.blk dm, 0, none⟩ ∧ dN = d)
    (hk0 : (c.pred && n.red) = false → ∀ w' s' n', WS w0 w' tb D0 D s' o0 m num iv → Plc s' dm Lb c (.nd l n' r) → n'.b = n.b → n'.x = n.x → n'.red = n.red → iv.hi ≤ n'.mx ∧ n'.mn ≤ iv.lo → BndT (.nd l n' r) →
      F40_J5 k ag (ta tb) iv.v ⟨dm, 0, none⟩ pa gp (some ⟨n.b, 0, none⟩) ((dN : Nat) : Int) ((iv.id : Nat) : Int) iv.hi iv.lo hp w')
    (hk1 : n.red = true → ∀ c2 g p o2 o, c = .fr (.fr c2 dN g o2) dN p o → p.red = true → ∀ w' s' n' g' p', WS w0 w' tb D0 D s' o0 m num iv → Plc s' dm Lb (.fr c2 dN p' (CT.mk (1 - dN) o2 g' o)) (.nd l n' r) → n'.b = n.b → n'.x = n.x → n'.red = true → iv.hi ≤ n'.mx ∧ n'.mn ≤ iv.lo → BndT (.nd l n' r) →
      p'.b = p.b → p'.x = p.x → p'.red = false → g'.x = g.x → g'.red = true → iv.hi ≤ p'.mx ∧ p'.mn ≤ iv.lo → (Cx.fr c2 dN p' (CT.mk (1 - dN) o2 g' o)).RB true K → (Cx.fr c2 dN p' (CT.mk (1 - dN) o2 g' o)).Bnd (CT.nd l n' r).xs →
      F40_J5 k ag (ta tb) iv.v ⟨dm, 0, none⟩ (some ⟨p.b, 0, none⟩) (some ⟨g.b, 0, none⟩) (some ⟨n.b, 0, none⟩) ((dN : Nat) : Int) ((iv.id : Nat) : Int) iv.hi iv.lo (some ⟨c2.blk dm, 0, none⟩) w')
    (hk2 : n.red = true → ∀ c2 g p o2 o, c = .fr (.fr c2 (1 - dN) g o2) dN p o → p.red = true → ∀ w' s' g' p' n' B C, (CT.mk dN B n' C).nds.map bx = (CT.nd l n r).nds.map bx → (dN = 0 → B = l ∧ C = r) → (dN = 1 → B = r ∧ C = l) → WS w0 w' tb D0 D s' o0 m num iv → Plc s' dm Lb c2 (CT.mk dN (CT.mk dN o2 g' B) n' (CT.mk dN C p' o)) →
      p'.x = p.x → p'.red = true → g'.x = g.x → g'.red = true → n'.b = n.b → n'.x = n.x → n'.red = false → iv.hi ≤ n'.mx ∧ n'.mn ≤ iv.lo →
      (CT.mk dN (CT.mk dN o2 g' B) n' (CT.mk dN C p' o)).RB (K + 1) → c2.RB false (K + 1) → BndT (CT.mk dN (CT.mk dN o2 g' B) n' (CT.mk dN C p' o)) → c2.Bnd (CT.mk dN (CT.mk dN o2 g' B) n' (CT.mk dN C p' o)).xs →
      F40_J5 k ag (ta tb) iv.v ⟨dm, 0, none⟩ (some ⟨p.b, 0, none⟩) (some ⟨g.b, 0, none⟩) (some ⟨n.b, 0, none⟩) ((dN : Nat) : Int) ((iv.id : Nat) : Int) iv.hi iv.lo (some ⟨c2.blk dm, 0, none⟩) w') :
    F40_J1 k ag (ta tb) iv.v ⟨dm, 0, none⟩ pa gp (some ⟨n.b, 0, none⟩) ((dN : Nat) : Int) ((lN : Nat) : Int) ((1 - lN : Nat) : Int) ((iv.id : Nat) : Int) iv.hi iv.lo hp w := by
  have nD : n.b ∈ D := pl.inD lk _ (.inl (by rw [nd_mk]; exact mk_mem.2 (.inl rfl)))
  have cD : ∀ b ∈ c.bls, b ∈ D := fun b hb => pl.inD lk b (.inr hb)
  have hh : Hd (s n.b) n := pl.rt.2 n (by simp [CT.nds])
  refine J1 h nD fun w1 h1 => ?_
  let n' : Nd := { n with mx := if iv.hi > n.mx then iv.hi else n.mx, mn := if iv.lo < n.mn then iv.lo else n.mn }
  have en : ext s n.b iv n.b = { s n.b with mx := if iv.hi > n.mx then iv.hi else n.mx, mn := if iv.lo < n.mn then iv.lo else n.mn } := by
    unfold ext; rw [up_same, hh.2.1, hh.2.2.1]
  have hh' : Hd (ext s n.b iv n.b) n' := by rw [en]; exact ⟨hh.1, rfl, rfl, hh.2.2.2⟩
  have pl' : Plc (ext s n.b iv) dm Lb c (.nd l n' r) := pl.root lk (fun b hb => up_ne hb) (by rw [en]) (by rw [en]) rfl rfl hh'
  have bn' : BndT (.nd l n' r) := bnd_root bn rfl (by show n.mx ≤ if _ then _ else _; split <;> omega) (by show (if _ then _ else _) ≤ n.mn; split <;> omega)
  have ext' : iv.hi ≤ n'.mx ∧ n'.mn ≤ iv.lo := ⟨by show iv.hi ≤ if _ then _ else _; split <;> omega, by show (if _ then _ else _) ≤ iv.lo; split <;> omega⟩
  rw [hpa]
  refine J3 h1 (CxR.par_mem cD) nD ?_
  rw [pl'.cx.par_red, hh'.2.2.2, show n'.red = n.red from rfl]
  cases hr : (c.pred && n.red) with
  | false => rw [← hpa]; exact J4f (hk0 hr w1 _ n' h1 pl' rfl rfl rfl ext' bn')
  | true =>
    rw [Bool.and_eq_true] at hr
    obtain ⟨c2, d2, g, o2, d, p, o, rfl, gr, o2r, rfl, rfl, rfl, rfl⟩ := hrot hr.1 hr.2
    have pr : p.red = true := hr.1
    show F40_J4 k ag (ta tb) iv.v ⟨dm, 0, none⟩ (some ⟨p.b, 0, none⟩) _ (some ⟨n'.b, 0, none⟩) _ _ _ _ _ _ _ true w1
    refine add_rot (n := n') h1 lk pl' hr.2 pr gr o2r ((rb_root rfl).2 rb) crb bn' (by rw [xs_root (n := n) (n' := n') rfl]; exact cbn) (ex g (by simp [Cx.frs])) (fun e => ?_) fun e => ?_
    · subst e
      intro w' s' g' p' h' q1 q2 q3 q4 q5 q6 q7 q8 q9 q10
      exact hk1 hr.2 c2 g p o2 o rfl pr w' s' n' g' p' h' q1 rfl rfl hr.2 ext' bn' q2 q3 q4 q5 q6 ⟨q7, q8⟩ q9 q10
    · have e' : lN = 1 - dN := by omega
      subst e'
      intro w' s' g' p' n'' B C eBC h' q1 q2 q3 q4 q5 q6 q7 q8 q9 q10 q11 q12 q13 q14
      refine hk2 hr.2 c2 g p o2 o rfl pr w' s' g' p' n'' B C ?_ (fun h0 => ?_) (fun h0 => ?_) h' q1 q2 q3 q4 q5 q6 q7 q8 ⟨q9, q10⟩ q11 q12 q13 q14
      · have e1 := bx_of q6 q7
        have : (CT.mk dN B n'' C).nds.map bx = (CT.mk dN B n' C).nds.map bx := by rw [mk_map, mk_map, e1]
        rw [this, eBC]
        show ((CT.nd l n' r).nds).map bx = _
        simp [CT.nds, bx]
        exact ⟨rfl, rfl⟩
      · subst h0
        injection eBC with a1 a2 a3
        exact ⟨a1, a3⟩
      · subst h0
        injection eBC with a1 a2 a3
        exact ⟨a3, a1⟩
/-- The end of add. -/
theorem add_fin {K : Nat} (h : WS w0 w tb D0 D s o0 m num iv) (lk : Lok D dm Lb) (pl : Plc s dm Lb c t) (rb : t.RB K) (crb : c.RB t.red K) (bn : BndT t) (cbn : c.Bnd t.xs) (hne : t.blk ≠ none)
    (hk : ∀ w' s' T, WS w0 w' tb D0 D s' T.blk m num iv → RepT s' T.blk T → T.red = false → (∃ N, T.RB N) → BndT T → T.nds.map bx = Lb → k (.tuple #[]) w') : F40_J6 k (ta tb) ⟨dm, 0, none⟩ w := by
  have R := pl.cx.plug pl.rt
  have B := Cx.Bnd.plug bn cbn
  obtain ⟨N, hN⟩ := Cx.RB.plug rb crb
  have eq := pl.eq
  have pd : Plc s dm Lb .top (c.plug t) := ⟨by have := R.blk; exact this, by rw [← R.blk]; exact R, pl.eq⟩
  cases hP : c.plug t with
  | lf =>
    have : t.nds = [] := by
      have e := Cx.plug_nds c t
      rw [hP] at e
      have e := e.symm
      simp only [CT.nds, List.append_eq_nil_iff] at e
      exact e.1.2
    exfalso
    obtain ⟨b, hb⟩ := Option.ne_none_iff_exists'.1 hne
    obtain ⟨x, n, y, rfl, _⟩ := CT.sides hb 0
    simp [CT.mk, CT.nds] at this
  | nd l n r =>
    rw [hP] at R B hN eq pd
    have e1 : (s dm).c1 = some n.b := R.blk
    have nD : n.b ∈ D := pd.inD lk _ (.inl (by rw [nd_mk]; exact mk_mem.2 (.inl rfl)))
    have hh : Hd (s n.b) n := pd.rt.2 n (by simp [CT.nds])
    refine J6 h lk.hdm e1 nD fun w' h' => ?_
    have pl' := pd.root (n' := { n with red := false }) (s' := up s n.b { s n.b with red := false }) lk (fun b hb => up_ne hb) (by rw [up_same]) (by rw [up_same]) rfl rfl (by rw [up_same]; exact ⟨hh.1, hh.2.1, hh.2.2.1, rfl⟩)
    refine hk w' _ (.nd l { n with red := false } r) h' pl'.rt rfl ?_ (bnd_root B rfl (Int.le_refl _) (Int.le_refl _)) pl'.eq
    cases hr : n.red with
    | false => exact ⟨N, (rb_root (n := n) (n' := { n with red := false }) (by rw [hr])).2 hN⟩
    | true =>
      rw [nd_mk, CT.mk_RB_red hr] at hN
      exact ⟨N + 1, by rw [nd_mk, CT.mk_RB_black rfl]; exact ⟨N, rfl, hN.1, hN.2.1⟩⟩
end
end Go.Proofs.Ythapmkjmfkmnoaa.E
