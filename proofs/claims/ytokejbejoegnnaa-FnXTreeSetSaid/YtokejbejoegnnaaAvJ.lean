/-
  An insertion, walked.
-/
import Derived.Test.YtokejbejoegnnaaAvI
namespace Go.Proofs.Ytokejbejoegnnaa.E
open Go Tr
set_option linter.unusedSimpArgs false
set_option linter.unusedVariables false
set_option maxRecDepth 100000
set_option maxHeartbeats 4000000

/-- The tree's head at ib. -/
def ImM (w : World) (ib : Nat) (root : Option Addr) (num : Nat) : Prop := Blk w ib 121 [.pointer root, .int .u64 (num : Nat), .int .i8 0, .pointer none, .pointer none, .nilIface]
def vE : Option It2 → Value
  | none => .nilIface
  | some x => encE x
/-- A tree whose head and root may be changed. -/
structure TM (w : World) (base ib : Nat) (t : Tr) (num : Nat) : Prop where
  im : ImM w ib t.ptr num
  tr : TrM w t
  avl : t.AVL
  srt : Srt t.list
  nd : t.bs.Nodup
  num : num = t.list.length
  root : ∀ b, t.ptr = some ⟨b, 0, none⟩ → base ≤ b
  ibb : base ≤ ib
/-- Which node the path's parent is. -/
def hlp (U : List Fm) (db : Nat) : Nat := match U.getLast? with | none => db | some f => f.b
theorem hlp_snoc (U : List Fm) (f : Fm) (db : Nat) : hlp (U ++ [f]) db = f.b := by simp [hlp]
theorem hlp_nil (db : Nat) : hlp [] db = db := rfl

/-- How far an insertion has come: the path, its part above the node s (U) and from there on (D). -/
structure Way (w0 : World) (base ib db num : Nat) (t : Tr) (e : It2) (U D : List Fm) (c : Tr) (w : World) : Prop where
  im : ImM w ib t.ptr num
  tr : TrM w (plug (U ++ D) c)
  avl : (plug (U ++ D) c).AVL
  list : (plug (U ++ D) c).list = t.list
  nd : (pbs (U ++ D) ++ c.bs).Nodup
  hi : ∀ f ∈ U ++ D, base ≤ f.b
  lo : ∀ x ∈ inL (U ++ D), kx x < kx e
  up : ∀ x ∈ inR (U ++ D), kx e < kx x
  lev : ∀ f ∈ D.tail, f.bal = 0
  s : U = [] ∨ (∀ f, D.head? = some f → f.bal ≠ 0) ∧ (D = [] → ∀ d b bal e' x y, c = nd' d b bal e' x y → bal ≠ 0)
  dm : Blk w db 119 [.int .i8 0, .pointer none, .pointer (hd (U ++ D) c.ptr), .nilIface]
  rp : hd (U ++ D) c.ptr = t.ptr
  sub : ∀ b ∈ pbs (U ++ D) ++ c.bs, b ∈ t.bs ∨ w0.heap.size ≤ b
  dbb : base ≤ db
  dbn : db ∉ pbs (U ++ D) ++ c.bs
  ibb : base ≤ ib
  sz : base ≤ w.heap.size
  fr : Fr (fun b => base ≤ b) w0 w
theorem Way.ibn {w0 w : World} {base ib db num : Nat} {t c : Tr} {e : It2} {U D : List Fm} (h : Way w0 base ib db num t e U D c w) : ib ≠ db ∧ ib ∉ pbs (U ++ D) ++ c.bs := by
  have aux : ∀ {t : Tr} {b : Nat}, TrM w t → b ∈ t.bs → ∃ us, Blk w b 119 us := by
    intro t
    induction t with
    | nil => intro b _ h; cases h
    | nd b' bal l e r ih1 ih2 =>
      intro b ⟨h1, h2, h3⟩ hb
      simp only [Tr.bs, List.mem_cons, List.mem_append] at hb
      rcases hb with rfl | hb | hb
      · exact ⟨_, h1⟩
      · exact ih1 h2 hb
      · exact ih2 h3 hb
  refine ⟨fun hh => ?_, fun hh => ?_⟩
  · have := h.dm; rw [← hh] at this; exact absurd (this.unique h.im).1 (by decide)
  · have hb : ib ∈ (plug (U ++ D) c).bs := by
      have := cnt_plug (U ++ D) c ib
      rw [← List.count_pos_iff] at hh ⊢
      omega
    obtain ⟨us, hu⟩ := aux h.tr hb
    exact absurd (hu.unique h.im).1 (by decide)
theorem dir_val {f : Fm} {e : It2} (h1 : f.d = true → kx f.e < kx e) (h2 : f.d = false → kx e < kx f.e) : (if kx f.e < kx e then (1 : Int) else if kx e < kx f.e then 0 else -1) = dI f.d := by
  cases hd : f.d
  · have := h2 hd; rw [if_neg (by omega), if_pos this]; rfl
  · have := h1 hd; rw [if_pos this]; rfl
theorem in_dir {R : List Fm} {f : Fm} (h : f ∈ R) : (f.d = true → f.e ∈ inL R) ∧ (f.d = false → f.e ∈ inR R) := by
  induction R with
  | nil => cases h
  | cons g R ih =>
    rcases List.mem_cons.1 h with rfl | h
    · constructor
      · intro hd; simp [inL, hd]
      · intro hd; simp [inR, hd]
    · obtain ⟨a, b⟩ := ih h
      exact ⟨fun hd => by simp only [inL, List.mem_append]; exact .inr (a hd), fun hd => by simp only [inR, List.mem_append]; exact .inl (b hd)⟩
/-- The new leaf. -/
def leaf (n : Nat) (e : It2) : Tr := .nd n 0 .nil e .nil
theorem leaf_avl (n : Nat) (e : It2) : (leaf n e).AVL ∧ (leaf n e).h = 1 := ⟨⟨trivial, trivial, rfl, by decide, by decide⟩, rfl⟩

section
variable {k : Value → W} {w0 : World} {base ib db num : Nat} {t : Tr} {e : It2}
/-- The last step: what has become of s is put where s was. -/
theorem J4_spec {w : World} {U : List Fm} {s R : Tr} {sb : Nat} (him : ∃ p, ImM w ib p num) (hU : PM w U (some ⟨sb, 0, none⟩)) (hs : s.ptr = some ⟨sb, 0, none⟩) (hsK : Known w (some ⟨sb, 0, none⟩)) (hR : TrM w R)
    (hdm : Blk w db 119 [.int .i8 0, .pointer none, .pointer (hd U (some ⟨sb, 0, none⟩)), .nilIface]) (hnd : (pbs U ++ R.bs).Nodup) (hsR : sb ∈ R.bs) (hib : ib ∉ pbs U ++ R.bs) (hhi : ∀ f ∈ U, base ≤ f.b) (hibb : base ≤ ib) (fr : Fr (fun b => base ≤ b) w0 w) (hroot : U ≠ [] → ImM w ib (hd U (some ⟨sb, 0, none⟩)) num)
    (hk : ∀ w', ImM w' ib (plug U R).ptr num → TrM w' (plug U R) → Fr (fun b => base ≤ b) w0 w' → k .nilIface w') : F60_J4 k (some ⟨ib, 0, none⟩) ⟨db, 0, none⟩ R.ptr (some ⟨sb, 0, none⟩) (some ⟨hlp U db, 0, none⟩) w := by
  unfold F60_J4
  refine ⟨by decide, ?_⟩
  refine load_ptr (i := 2) hdm rfl ?_
  obtain ⟨p0, him⟩ := him
  have hibU : ib ∉ pbs U := fun h => hib (List.mem_append_left _ h)
  have hibR : ib ∉ R.bs := fun h => hib (List.mem_append_right _ h)
  rcases List.eq_nil_or_concat U with e1 | ⟨V, g, e1⟩
  · subst e1
    simp only [hd]
    refine ptr_eql hsK hsK ?_
    rw [decide_eq_true rfl]
    simp only [BIf_true, NN_mk]
    refine store_intro him (by simp) rfl fun w1 b1 f1 z1 => ?_
    refine hk w1 b1 ?_ (fr.trans f1 fun b h => .inl (by have : b = ib := h; omega))
    rw [trm_plug]
    exact ⟨trivial, hR.fr f1 fun b hb h => hibR (by have : b = ib := h; exact this ▸ hb)⟩
  · rw [List.concat_eq_append] at e1
    subst e1
    have hroot := hroot (by simp)
    have hUU := hU
    rw [pm_append] at hU
    obtain ⟨hV, hg, hgo, _⟩ := hU
    simp only [hd] at hg hV
    have hgn : g.b ≠ sb := fun h => by
      have := (List.nodup_append.1 hnd).2.2 g.b (mem_b (by simp)) sb hsR
      exact this h
    have hgo' : g.o.ptr ≠ some ⟨sb, 0, none⟩ := fun h => by
      have : sb ∈ g.o.bs := by
        cases ho : g.o with
        | nil => rw [ho] at h; cases h
        | nd b bal l e r => rw [ho] at h; simp only [Tr.ptr, Option.some.injEq, Addr.mk.injEq] at h; simp [Tr.bs, h.1]
      have hm : sb ∈ pbs (V ++ [g]) := by rw [pbs_append]; simp [pbs, this]
      exact (List.nodup_append.1 hnd).2.2 sb hm sb hsR rfl
    have hkU : Known w (hd (V ++ [g]) (some ⟨sb, 0, none⟩)) := by
      cases V with
      | nil => exact .inr ⟨_, _, _, rfl, hg⟩
      | cons a V => exact .inr ⟨_, _, _, rfl, hV.1⟩
    have hne : some (⟨sb, 0, none⟩ : Addr) ≠ hd (V ++ [g]) (some ⟨sb, 0, none⟩) := by
      intro h
      have : sb ∈ pbs (V ++ [g]) := by
        cases V with
        | nil => simp only [List.nil_append, hd, Option.some.injEq, Addr.mk.injEq] at h; exact absurd h.1.symm hgn
        | cons a V => simp only [List.cons_append, hd, Option.some.injEq, Addr.mk.injEq] at h; simp [pbs, h.1]
      exact (List.nodup_append.1 hnd).2.2 sb this sb hsR rfl
    refine ptr_eql hsK hkU ?_
    rw [decide_eq_false hne]
    simp only [BIf_false, hlp_snoc]
    refine drw_intro fun w1 f1 z1 => ?_
    have g1 := hg.fr f1 id
    simp only [NN_mk]
    refine ⟨by decide, ?_⟩
    -- its right child, whether s or not
    have hright : (ncl g.d g.bal g.e (some ⟨sb, 0, none⟩) g.o.ptr)[2]? = some (.pointer (bif g.d then some ⟨sb, 0, none⟩ else g.o.ptr)) := by cases g.d <;> rfl
    refine load_ptr (i := 2) g1 hright ?_
    try simp only [NN_mk]
    have hsK1 : Known w1 (some ⟨sb, 0, none⟩) := by
      rcases hsK with h | ⟨b, t, vs, h, hb⟩
      · cases h
      · exact .inr ⟨b, t, vs, h, hb.fr f1 id⟩
    have hko : Known w1 (bif g.d then some (⟨sb, 0, none⟩ : Addr) else g.o.ptr) := by
      cases g.d
      · exact Known.tr (hgo.fr0 f1)
      · exact hsK1
    refine ptr_eql hko hsK1 ?_
    have hdec : decide ((bif g.d then some (⟨sb, 0, none⟩ : Addr) else g.o.ptr) = some ⟨sb, 0, none⟩) = g.d := by
      cases hd : g.d
      · simpa using hgo'
      · simp
    rw [hdec]
    refine F74_call ?_
    have e74 : F74 (Back (.s (.one (.int .i64))) (fun x106 => Chk1 (((⟨g.b, 0, none⟩ : Addr).add 1).add ((1 : Int).toNat)) (.pointer (bif g.d then some ⟨sb, 0, none⟩ else g.o.ptr)) <| Req (0 ≤ x106 ∧ x106 < (2 : Int)) <| Store1 (((⟨g.b, 0, none⟩ : Addr).add 1).add x106.toNat) (.pointer R.ptr) <| k .nilIface) ∘ .returned) g.d w1 := by
      have main : (fun x106 => Chk1 (((⟨g.b, 0, none⟩ : Addr).add 1).add ((1 : Int).toNat)) (.pointer (bif g.d then some ⟨sb, 0, none⟩ else g.o.ptr)) <| Req (0 ≤ x106 ∧ x106 < (2 : Int)) <| Store1 (((⟨g.b, 0, none⟩ : Addr).add 1).add x106.toNat) (.pointer R.ptr) <| k .nilIface) (dI g.d) w1 := by
        refine ⟨by show w1.cell? ⟨g.b, 2, none⟩ = _; rw [g1.cell]; exact hright, dI_ok g.d, ?_⟩
        rw [adr]
        refine store_intro g1 (by rw [ncl_len]; exact sd_lt g.d) rfl fun w2 b2 f2 z2 => ?_
        rw [ncl_set_c] at b2
        have f02 : Fr (fun b => b = g.b) w w2 := (f1.mono fun _ h => h.elim).trans f2 fun b h => .inl h
        have hnn : ∀ b, b = g.b → b ∉ R.bs := fun b h hb => by subst h; exact (List.nodup_append.1 hnd).2.2 g.b (mem_b (by simp)) g.b hb rfl
        have hndU := (List.nodup_append.1 hnd).1
        rw [pbs_append] at hndU
        have hV' : PM w2 V (some ⟨g.b, 0, none⟩) := (PM.fr f1 hV fun _ _ h => h).fr f2 fun b hb h => by
          have : b = g.b := h
          subst this
          exact (List.nodup_append.1 hndU).2.2 g.b hb g.b (by simp [pbs]) rfl
        have hgo2 : TrM w2 g.o := (hgo.fr0 f1).fr f2 fun b hb h => by
          have : b = g.b := h
          subst this
          have h2 := (List.nodup_append.1 hndU).2.1
          simp only [pbs, List.append_nil, List.nodup_cons] at h2
          exact h2.1 hb
        have hgb := hhi g (by simp)
        refine hk w2 ?_ ?_ (fr.trans f02 fun b h => .inl (by have : b = g.b := h; omega))
        · have : (plug (V ++ [g]) R).ptr = hd (V ++ [g]) (some ⟨sb, 0, none⟩) := by
            rw [plug_ptr, hd_append, hd_append]; rfl
          rw [this]
          exact (Blk.fr hroot f1 id).fr f2 fun h => hibU (by rw [h]; exact mem_b (by simp))
        · rw [trm_plug, pm_append]
          exact ⟨⟨hV', b2, hgo2, trivial⟩, (hR.fr0 f1).fr f2 fun b hb h => hnn b h hb⟩
      unfold F74
      cases hd : g.d
      · rw [hd] at main; exact back_int main
      · rw [hd] at main; exact back_int main
    exact e74
end
end Go.Proofs.Ytokejbejoegnnaa.E
