/-
  Interval trees: trees with colours, ends and intervals; paths; plain laws.
-/
import Derived.Test.YthapmkjmfkmnoaaAtC
namespace Go.Proofs.Ythapmkjmfkmnoaa.E
open Go
set_option linter.unusedSimpArgs false
set_option linter.unusedVariables false
set_option maxRecDepth 100000
set_option maxHeartbeats 4000000

structure Nd where
  b : Nat
  x : Spn
  mx : Int
  mn : Int
  red : Bool
inductive CT where
  | lf : CT
  | nd : CT → Nd → CT → CT
namespace CT
def nds : CT → List Nd
  | lf => []
  | nd l n r => l.nds ++ n :: r.nds
def sh : CT → Tr
  | lf => .lf
  | nd l n r => .nd l.sh n.b r.sh
def mk (d : Nat) (x : CT) (n : Nd) (y : CT) : CT := if d = 0 then nd x n y else nd y n x
def red : CT → Bool
  | lf => false
  | nd _ n _ => n.red
def blk : CT → Option Nat
  | lf => none
  | nd _ n _ => some n.b
def bls (t : CT) : List Nat := t.nds.map Nd.b
def xs (t : CT) : List Spn := t.nds.map Nd.x
/-- Red and black: no red one below a red one, and as many black ones on each way. -/
def RB : CT → Nat → Prop
  | lf, n => n = 0
  | nd l m r, n => if m.red = true then RB l n ∧ RB r n ∧ l.red = false ∧ r.red = false else ∃ k, n = k + 1 ∧ RB l k ∧ RB r k
theorem sh_ino : ∀ t : CT, t.sh.ino = t.bls
  | lf => rfl
  | nd l n r => by
    have h1 := sh_ino l
    have h2 := sh_ino r
    unfold bls at *
    simp [sh, Tr.ino, nds, h1, h2]
theorem mk_sh (d : Nat) (x y : CT) (n : Nd) : (mk d x n y).sh = Tr.mk d x.sh n.b y.sh := by unfold mk Tr.mk; split <;> rfl
theorem mk_red (d : Nat) (x y : CT) (n : Nd) : (mk d x n y).red = n.red := by unfold mk; split <;> rfl
theorem mk_blk (d : Nat) (x y : CT) (n : Nd) : (mk d x n y).blk = some n.b := by unfold mk; split <;> rfl
theorem mk_nds (d : Nat) (x y : CT) (n : Nd) : (mk d x n y).nds.Perm (n :: (x.nds ++ y.nds)) := by
  unfold mk; split
  · exact List.perm_middle
  · exact List.perm_middle.trans (List.Perm.cons _ List.perm_append_comm)
theorem mk_bls (d : Nat) (x y : CT) (n : Nd) : (mk d x n y).bls.Perm (n.b :: (x.bls ++ y.bls)) := by
  have := (mk_nds d x y n).map Nd.b
  unfold bls; simpa using this
theorem mk_RB_red {d : Nat} {x y : CT} {n : Nd} {k : Nat} (h : n.red = true) : (mk d x n y).RB k ↔ x.RB k ∧ y.RB k ∧ x.red = false ∧ y.red = false := by
  unfold mk; split
  · simp only [RB, h, if_true]
  · simp only [RB, h, if_true]
    exact ⟨fun ⟨a, b, c, d⟩ => ⟨b, a, d, c⟩, fun ⟨a, b, c, d⟩ => ⟨b, a, d, c⟩⟩
theorem mk_RB_black {d : Nat} {x y : CT} {n : Nd} {k : Nat} (h : n.red = false) : (mk d x n y).RB k ↔ ∃ m, k = m + 1 ∧ x.RB m ∧ y.RB m := by
  unfold mk; split
  · simp [RB, h]
  · simp only [RB, h]
    exact ⟨fun ⟨m, a, b, c⟩ => ⟨m, a, c, b⟩, fun ⟨m, a, b, c⟩ => ⟨m, a, c, b⟩⟩
/-- A tree by its root, told by a side. -/
theorem sides {t : CT} {b : Nat} (h : t.blk = some b) (d : Nat) : ∃ x n y, t = mk d x n y ∧ n.b = b := by
  cases t with
  | lf => cases h
  | nd l n r =>
    unfold mk
    cases h
    by_cases e : d = 0
    · exact ⟨l, n, r, by rw [if_pos e], rfl⟩
    · exact ⟨r, n, l, by rw [if_neg e], rfl⟩
theorem of_blk_none {t : CT} (h : t.blk = none) : t = lf := by
  cases t with
  | lf => rfl
  | nd l n r => cases h
theorem red_some {t : CT} (h : t.red = true) : ∃ b, t.blk = some b := by
  cases t with
  | lf => cases h
  | nd l n r => exact ⟨n.b, rfl⟩
end CT
/-- What a node holds. -/
def Hd (m : Nn) (n : Nd) : Prop := m.x = some n.x ∧ m.mx = n.mx ∧ m.mn = n.mn ∧ m.red = n.red
def RepT (s : St) (o : Option Nat) (t : CT) : Prop := Rep s o t.sh ∧ ∀ n ∈ t.nds, Hd (s n.b) n
theorem RepT.blk {s : St} {o : Option Nat} {t : CT} (h : RepT s o t) : o = t.blk := by
  obtain ⟨h, _⟩ := h
  cases t with
  | lf => cases o with
    | none => rfl
    | some b => exact h.elim
  | nd l n r => cases o with
    | none => exact h.elim
    | some b => obtain ⟨h, _⟩ := h; rw [← h]; rfl
theorem RepT.lf {s : St} : RepT s none .lf := ⟨trivial, fun n hn => by cases hn⟩
theorem RepT.mk_iff {s : St} {b d : Nat} {n : Nd} {x y : CT} (hd : d < 2) : RepT s (some b) (CT.mk d x n y) ↔ n.b = b ∧ Hd (s n.b) n ∧ RepT s (ch (s n.b) d) x ∧ RepT s (ch (s n.b) (1 - d)) y := by
  unfold RepT
  rw [CT.mk_sh, Rep.mk_iff hd]
  have mem : ∀ m, m ∈ (CT.mk d x n y).nds ↔ m = n ∨ m ∈ x.nds ∨ m ∈ y.nds := fun m => by
    rw [(CT.mk_nds d x y n).mem_iff]; simp
  constructor
  · rintro ⟨⟨rfl, h1, h2⟩, h3⟩
    exact ⟨rfl, h3 n ((mem n).2 (.inl rfl)), ⟨h1, fun m hm => h3 m ((mem m).2 (.inr (.inl hm)))⟩, ⟨h2, fun m hm => h3 m ((mem m).2 (.inr (.inr hm)))⟩⟩
  · rintro ⟨rfl, h0, ⟨h1, h3⟩, ⟨h2, h4⟩⟩
    refine ⟨⟨rfl, h1, h2⟩, fun m hm => ?_⟩
    rcases (mem m).1 hm with rfl | hm | hm
    · exact h0
    · exact h3 m hm
    · exact h4 m hm
theorem RepT.frame {s s' : St} {o : Option Nat} {t : CT} (h : RepT s o t) (hf : ∀ b ∈ t.bls, s' b = s b) : RepT s' o t := by
  refine ⟨h.1.frame fun b hb => ?_, fun n hn => ?_⟩
  · rw [CT.sh_ino] at hb
    rw [hf b hb]; exact ⟨rfl, rfl⟩
  · rw [hf n.b (List.mem_map.2 ⟨n, hn, rfl⟩)]; exact h.2 n hn
theorem RepT.has {s : St} {o : Option Nat} {t : CT} (h : RepT s o t) : Has s t.sh := fun y hy => by
  rw [CT.sh_ino] at hy
  obtain ⟨n, hn, rfl⟩ := List.mem_map.1 hy
  rw [(h.2 n hn).1]; exact fun h => by cases h
theorem RepT.red {s : St} {o : Option Nat} {t : CT} (h : RepT s o t) : isRed s o = t.red := by
  have e := h.blk
  subst e
  cases t with
  | lf => rfl
  | nd l n r => exact (h.2 n (by simp [CT.nds])).2.2.2
/-- Ends bound what is below. -/
def BndT : CT → Prop
  | .lf => True
  | .nd l n r => (∀ x ∈ (CT.nd l n r).xs, x.hi ≤ n.mx ∧ n.mn ≤ x.lo) ∧ BndT l ∧ BndT r
theorem bnd_iff {s : St} : ∀ {t : CT}, (∀ n ∈ t.nds, Hd (s n.b) n) → (Bnd s t.sh ↔ BndT t)
  | .lf, _ => Iff.rfl
  | .nd l n r, h => by
    have hn := h n (by simp [CT.nds])
    have e1 : Bnd s (CT.nd l n r).sh ↔ (∀ y ∈ (CT.nd l n r).sh.ino, hiS s y ≤ (s n.b).mx ∧ (s n.b).mn ≤ loS s y) ∧ Bnd s l.sh ∧ Bnd s r.sh := Iff.rfl
    have e2 : BndT (CT.nd l n r) ↔ (∀ x ∈ (CT.nd l n r).xs, x.hi ≤ n.mx ∧ n.mn ≤ x.lo) ∧ BndT l ∧ BndT r := Iff.rfl
    rw [e1, e2, bnd_iff fun m hm => h m (by simp [CT.nds, hm]), bnd_iff fun m hm => h m (by simp [CT.nds, hm]), CT.sh_ino]
    refine and_congr_left fun _ => ?_
    constructor
    · intro h' x hx
      obtain ⟨m, hm, rfl⟩ := List.mem_map.1 hx
      have := h' m.b (List.mem_map.2 ⟨m, hm, rfl⟩)
      unfold hiS loS at this
      rw [(h m hm).1, hn.2.1, hn.2.2.1] at this
      exact this
    · intro h' y hy
      obtain ⟨m, hm, rfl⟩ := List.mem_map.1 hy
      have := h' m.x (List.mem_map.2 ⟨m, hm, rfl⟩)
      unfold hiS loS
      rw [(h m hm).1, hn.2.1, hn.2.2.1]
      exact this
theorem BndT.mk_iff {d : Nat} {x y : CT} {n : Nd} : BndT (CT.mk d x n y) ↔ (∀ z, z ∈ n.x :: (x.xs ++ y.xs) → z.hi ≤ n.mx ∧ n.mn ≤ z.lo) ∧ BndT x ∧ BndT y := by
  have mem : ∀ z, z ∈ n.x :: (x.xs ++ y.xs) ↔ z ∈ (CT.mk d x n y).xs := fun z => by
    have := ((CT.mk_nds d x y n).map Nd.x).mem_iff (a := z)
    unfold CT.xs
    rw [this]; simp
  simp only [mem]
  unfold CT.mk; split
  · exact Iff.rfl
  · exact ⟨fun ⟨a, b, c⟩ => ⟨a, c, b⟩, fun ⟨a, b, c⟩ => ⟨a, c, b⟩⟩
/-! ## Paths -/
inductive Cx where
  | top : Cx
  | fr : Cx → Nat → Nd → CT → Cx
namespace Cx
def plug : Cx → CT → CT
  | top, t => t
  | fr c d n o, t => c.plug (CT.mk d t n o)
def frs : Cx → List Nd
  | top => []
  | fr c _ n _ => n :: c.frs
def nds : Cx → List Nd
  | top => []
  | fr c _ n o => n :: (o.nds ++ c.nds)
def bls (c : Cx) : List Nat := c.nds.map Nd.b
/-- What lies ahead of the hole, and behind it. -/
def pre : Cx → List Nd
  | top => []
  | fr c d n o => c.pre ++ (if d = 0 then [] else o.nds ++ [n])
def post : Cx → List Nd
  | top => []
  | fr c d n o => (if d = 0 then n :: o.nds else []) ++ c.post
def blk (dm : Nat) : Cx → Nat
  | top => dm
  | fr _ _ n _ => n.b
def dir : Cx → Nat
  | top => 1
  | fr _ d _ _ => d
theorem plug_nds : ∀ (c : Cx) (t : CT), (c.plug t).nds = c.pre ++ t.nds ++ c.post
  | top, t => by simp [plug, pre, post]
  | fr c d n o, t => by
    have := plug_nds c (CT.mk d t n o)
    unfold plug pre post
    rw [this]
    unfold CT.mk
    split <;> simp [CT.nds]
theorem nds_perm : ∀ c : Cx, c.nds.Perm (c.pre ++ c.post)
  | top => .refl _
  | fr c d n o => by
    have ih := nds_perm c
    unfold nds pre post
    split
    · simp only [List.append_nil]
      have h1 : (c.pre ++ (n :: o.nds ++ c.post)).Perm (n :: (o.nds ++ (c.pre ++ c.post))) := by
        have : c.pre ++ (n :: o.nds ++ c.post) = c.pre ++ n :: (o.nds ++ c.post) := by simp
        rw [this]
        refine List.perm_middle.trans (List.Perm.cons _ ?_)
        rw [← List.append_assoc, ← List.append_assoc]
        exact List.Perm.append_right _ List.perm_append_comm
      exact ((List.Perm.append_left _ ih).cons _).trans h1.symm
    · simp only [List.nil_append]
      have h1 : (c.pre ++ (o.nds ++ [n]) ++ c.post).Perm (n :: (o.nds ++ (c.pre ++ c.post))) := by
        have : c.pre ++ (o.nds ++ [n]) ++ c.post = (c.pre ++ o.nds) ++ n :: c.post := by simp
        rw [this]
        refine List.perm_middle.trans (List.Perm.cons _ ?_)
        rw [← List.append_assoc]
        exact List.Perm.append_right _ List.perm_append_comm
      exact ((List.Perm.append_left _ ih).cons _).trans h1.symm
theorem plug_perm (c : Cx) (t : CT) : (c.plug t).nds.Perm (t.nds ++ c.nds) := by
  rw [plug_nds]
  refine List.Perm.trans ?_ (List.Perm.append_left _ (nds_perm c).symm)
  rw [← List.append_assoc]
  exact List.Perm.append_right _ List.perm_append_comm
/-- A context that takes a tree of some height and colour. -/
def RB : Cx → Bool → Nat → Prop
  | top, _, _ => True
  | fr c _ m o, rd, n => o.RB n ∧ (m.red = true → rd = false ∧ o.red = false) ∧ RB c m.red (if m.red = true then n else n + 1)
theorem RB.black : ∀ {c : Cx} {rd : Bool} {n : Nat}, c.RB rd n → c.RB false n
  | top, _, _, _ => trivial
  | fr c d m o, rd, n, ⟨h1, h2, h3⟩ => ⟨h1, fun h => ⟨rfl, (h2 h).2⟩, h3⟩
theorem RB.plug : ∀ {c : Cx} {t : CT} {n : Nat}, t.RB n → c.RB t.red n → ∃ N, (c.plug t).RB N
  | top, t, n, h, _ => ⟨n, h⟩
  | fr c d m o, t, n, h, ⟨h1, h2, h3⟩ => by
    unfold Cx.plug
    cases hm : m.red with
    | true =>
      rw [hm, if_pos rfl] at h3
      obtain ⟨h4, h5⟩ := h2 hm
      exact RB.plug ((CT.mk_RB_red hm).2 ⟨h, h1, h4, h5⟩) (by rw [CT.mk_red, hm]; exact h3)
    | false =>
      rw [hm, if_neg (by decide)] at h3
      exact RB.plug ((CT.mk_RB_black hm).2 ⟨n, rfl, h, h1⟩) (by rw [CT.mk_red, hm]; exact h3)
def Bnd : Cx → List Spn → Prop
  | top, _ => True
  | fr c _ n o, l => (∀ z, z ∈ n.x :: (l ++ o.xs) → z.hi ≤ n.mx ∧ n.mn ≤ z.lo) ∧ BndT o ∧ c.Bnd (n.x :: (l ++ o.xs))
theorem Bnd.mono : ∀ {c : Cx} {l l' : List Spn}, c.Bnd l → (∀ z ∈ l', z ∈ l) → c.Bnd l'
  | top, _, _, _, _ => trivial
  | fr c d n o, l, l', ⟨h1, h2, h3⟩, hm => by
    have : ∀ z, z ∈ n.x :: (l' ++ o.xs) → z ∈ n.x :: (l ++ o.xs) := fun z hz => by
      simp only [List.mem_cons, List.mem_append] at hz ⊢
      rcases hz with h | h | h
      · exact .inl h
      · exact .inr (.inl (hm z h))
      · exact .inr (.inr h)
    exact ⟨fun z hz => h1 z (this z hz), h2, Bnd.mono h3 this⟩
theorem Bnd.add {x : Spn} : ∀ {c : Cx} {l : List Spn}, c.Bnd l → (∀ n ∈ c.frs, x.hi ≤ n.mx ∧ n.mn ≤ x.lo) → c.Bnd (x :: l)
  | top, _, _, _ => trivial
  | fr c d n o, l, ⟨h1, h2, h3⟩, he => by
    refine ⟨fun z hz => ?_, h2, Bnd.mono (Bnd.add h3 fun m hm => he m (List.mem_cons_of_mem _ hm)) fun z hz => ?_⟩
    · simp only [List.mem_cons, List.cons_append] at hz
      rcases hz with h | h | h
      · exact h1 z (by rw [h]; exact List.mem_cons_self)
      · rw [h]; exact he n List.mem_cons_self
      · exact h1 z (List.mem_cons_of_mem _ h)
    · simp only [List.mem_cons, List.cons_append] at hz ⊢
      rcases hz with h | h | h
      · exact .inr (.inl h)
      · exact .inl h
      · exact .inr (.inr h)
theorem Bnd.plug : ∀ {c : Cx} {t : CT}, BndT t → c.Bnd t.xs → BndT (c.plug t)
  | top, t, h, _ => h
  | fr c d n o, t, h, ⟨h1, h2, h3⟩ => by
    refine Bnd.plug (t := CT.mk d t n o) (BndT.mk_iff.2 ⟨h1, h, h2⟩) (h3.mono fun z hz => ?_)
    have := ((CT.mk_nds d t o n).map Nd.x).mem_iff (a := z)
    have e := this.1 hz
    simpa [CT.xs] using e
end Cx
/-- A path in memory: o is what its last link leads to; dm is where it begins. -/
def CxR (s : St) (dm : Nat) : Cx → Option Nat → Prop
  | .top, o => (s dm).c1 = o
  | .fr c d n t, o => d < 2 ∧ ch (s n.b) d = o ∧ Hd (s n.b) n ∧ RepT s (ch (s n.b) (1 - d)) t ∧ CxR s dm c (some n.b)
namespace CxR
theorem ch {s : St} {dm : Nat} {c : Cx} {o : Option Nat} (h : CxR s dm c o) : E.ch (s (c.blk dm)) c.dir = o := by
  cases c with
  | top => exact h
  | fr c d n t => exact h.2.1
theorem dir {s : St} {dm : Nat} {c : Cx} {o : Option Nat} (h : CxR s dm c o) : c.dir < 2 := by
  cases c with
  | top => exact Nat.le_refl _
  | fr c d n t => exact h.1
theorem frame {s s' : St} {dm : Nat} : ∀ {c : Cx} {o : Option Nat}, CxR s dm c o → (∀ b ∈ c.bls, s' b = s b) → s' dm = s dm → CxR s' dm c o
  | .top, o, h, _, h2 => by unfold CxR at *; rw [h2]; exact h
  | .fr c d n t, o, ⟨h0, h1, h2, h3, h4⟩, hf, hd => by
    have e := hf n.b (by simp [Cx.bls, Cx.nds])
    refine ⟨h0, by rw [e]; exact h1, by rw [e]; exact h2, ?_, frame h4 (fun b hb => hf b ?_) hd⟩
    · rw [e]
      exact h3.frame fun b hb => hf b (by
        unfold Cx.bls Cx.nds; unfold CT.bls at hb
        rw [List.map_cons, List.map_append]
        exact List.mem_cons_of_mem _ (List.mem_append_left _ hb))
    · unfold Cx.bls Cx.nds; unfold Cx.bls at hb
      rw [List.map_cons, List.map_append]
      exact List.mem_cons_of_mem _ (List.mem_append_right _ hb)
/-- The last link is set. -/
theorem set {s : St} {dm : Nat} {c : Cx} {o o' : Option Nat} (h : CxR s dm c o) (hn : (dm :: c.bls).Nodup) : CxR (up s (c.blk dm) (setC (s (c.blk dm)) c.dir o')) dm c o' := by
  cases c with
  | top => show (up s dm _ dm).c1 = o'; rw [Cx.blk, up_same]; rfl
  | fr c d n t =>
    obtain ⟨h0, h1, h2, h3, h4⟩ := h
    have e : up s n.b (setC (s n.b) d o') n.b = setC (s n.b) d o' := up_same _ _ _
    unfold Cx.bls Cx.nds at hn
    rw [List.map_cons, List.map_append] at hn
    simp only [List.nodup_cons, List.mem_cons, List.mem_append, not_or] at hn
    obtain ⟨⟨n1, n2, n3⟩, ⟨n4, n5⟩, n6⟩ := hn
    have ne : ∀ {b : Nat}, b ≠ n.b → up s n.b (setC (s n.b) d o') b = s b := fun h => up_ne h
    show CxR (up s n.b (setC (s n.b) d o')) dm (.fr c d n t) o'
    refine ⟨h0, by rw [e, ch_setC], ?_, ?_, ?_⟩
    · rw [e]; exact ⟨by rw [setC_x]; exact h2.1, by rw [setC_mx]; exact h2.2.1, by rw [setC_mn]; exact h2.2.2.1, by rw [setC_red]; exact h2.2.2.2⟩
    · rw [e, ch_setC_ne _ _ h0 (by omega) (by omega)]
      exact h3.frame fun b hb => ne fun e => n4 (by rw [← e]; exact hb)
    · exact frame h4 (fun b hb => ne fun e => n5 (by rw [← e]; exact hb)) (ne fun e => n1 e)
end CxR
theorem CxR.plug {s : St} {dm : Nat} : ∀ {c : Cx} {o : Option Nat} {t : CT}, CxR s dm c o → RepT s o t → RepT s (s dm).c1 (c.plug t)
  | .top, o, t, h, h' => by unfold CxR at h; rw [h]; exact h'
  | .fr c d n u, o, t, ⟨h0, h1, h2, h3, h4⟩, h' => CxR.plug (c := c) (t := CT.mk d t n u) h4 ((RepT.mk_iff h0).2 ⟨rfl, h2, by rw [h1]; exact h', h3⟩)
end Go.Proofs.Ythapmkjmfkmnoaa.E
