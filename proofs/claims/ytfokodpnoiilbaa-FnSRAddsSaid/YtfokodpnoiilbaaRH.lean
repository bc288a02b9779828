/-
  Range trees: the entries of a statement (rtMade); the first law (FnRTApplies).
-/
import Derived.Test.YtfokodpnoiilbaaRG
namespace Go.Proofs.Ytfokodpnoiilbaa.E
open Go
set_option linter.unusedSimpArgs false
set_option linter.unusedVariables false
set_option maxRecDepth 100000
set_option maxHeartbeats 8000000

/-! ## Plain -/
def putsP (l : List PD) (xs : List PD) : List PD := xs.foldl insP l
theorem putsP_snoc (l xs : List PD) (x : PD) : putsP l (xs ++ [x]) = insP (putsP l xs) x := by unfold putsP; rw [List.foldl_append]; rfl
theorem insP_le (x : PD) : ∀ l : List PD, (insP l x).length ≤ l.length + 1
  | [] => Nat.le_refl _
  | y :: l => by
    rw [insP_cons]
    split
    · have := insP_le x l; simp only [List.length_cons]; omega
    · split <;> simp
theorem putsP_le : ∀ (xs l : List PD), (putsP l xs).length ≤ l.length + xs.length
  | [], l => Nat.le_refl _
  | x :: xs, l => by
    show (putsP (insP l x) xs).length ≤ _
    have := putsP_le xs (insP l x)
    have := insP_le x l
    simp only [List.length_cons]; omega
theorem putsP_srt {n : Nat} : ∀ {xs l : List PD}, (∀ x ∈ xs, x.1.length = n) → SrtP n l → SrtP n (putsP l xs)
  | [], _, _, h => h
  | x :: xs, l, hx, h => putsP_srt (xs := xs) (fun y hy => hx y (List.mem_cons_of_mem _ hy)) (insP_srt (hx x List.mem_cons_self) h)
/-- A tree and a list with the same entries. -/
structure Same (n : Nat) (M : OP n) (l : List PD) : Prop where
  sm : SrtN n M
  sl : SrtP n l
  get : ∀ k : List Int, k.length = n → getON n M k = (fndP k l).map some
  sz : szN n M = l.length
theorem kyP_full (l : List Int) : kyP l l.length 1 = l := by
  have : ∀ (m : Nat) (a : List Int) (i : Nat), a = (l.drop i).take m → i + m ≤ l.length → kyP l m (i + 1) = a := fun m => by
    induction m with
    | zero => intro a i h _; rw [h]; simp [kyP]
    | succ m ih =>
      intro a i h hi
      have e : plI l (i + 1) = l[i]'(by omega) := by
        unfold plI
        rw [if_neg (by omega), Nat.add_sub_cancel, List.getD_eq_getElem?_getD, List.getElem?_eq_getElem (by omega)]; rfl
      have d : l.drop i = l[i]'(by omega) :: l.drop (i + 1) := List.drop_eq_getElem_cons (by omega)
      show plI l (i + 1) :: kyP l m (i + 1 + 1) = a
      rw [e, ih _ (i + 1) rfl (by omega), h, d, List.take_succ_cons]
  exact this l.length l 0 (by simp) (by simp)
theorem Same.add {n : Nat} {M : OP n} {l : List PD} {x : PD} (h : Same n M l) (hx : x.1.length = n) : Same n (addP n M x) (insP l x) ∧ oldP n M x = fndP x.1 l := by
  have hk : kyP x.1 n 1 = x.1 := by rw [← hx]; exact kyP_full x.1
  have hg := h.get x.1 hx
  refine ⟨⟨srt_add n M _ _ h.sm, insP_srt hx h.sl, fun k hkl => ?_, ?_⟩, ?_⟩
  · unfold addP
    rw [get_add n M _ k _ h.sm (by rw [hk]; exact hx) hkl, hk, fndP_ins hx h.sl, h.get k hkl]
    split <;> rfl
  · unfold addP
    rw [szN_add n M _ _ h.sm (by rw [hk]; exact hx), hk, hg, insP_len hx h.sl, h.sz]
    cases fndP x.1 l <;> rfl
  · unfold oldP
    rw [hk, hg]
    cases fndP x.1 l <;> rfl
theorem Same.adds {n : Nat} : ∀ {xs : List PD} {M : OP n} {l : List PD}, Same n M l → (∀ x ∈ xs, x.1.length = n) → Same n (addsP n M xs) (putsP l xs)
  | [], _, _, h, _ => h
  | x :: xs, M, l, h, hx => Same.adds (xs := xs) (h.add (hx x List.mem_cons_self)).1 fun y hy => hx y (List.mem_cons_of_mem _ hy)
theorem Same.nil {n : Nat} (hn : 1 ≤ n) : Same n (mapE n (nilN n)) [] := by
  obtain ⟨m, rfl⟩ : ∃ m, n = m + 1 := ⟨n - 1, by omega⟩
  refine ⟨⟨List.Pairwise.nil, fun p hp => by cases hp⟩, ⟨fun x hx => (by cases hx), List.Pairwise.nil⟩, fun k hk => ?_, rfl⟩
  match k, hk with
  | v :: vs, _ => rfl
section
variable {w : World} {k : Value → W}
theorem back_si {f : Option Addr → Nat → Nat → Int → W} {p : Option Addr} {l c : Nat} {x : Int} (h : f p l c x w) : Back (.s (.agg [.slice, (.int .i64)])) f (.returned (.agg #[.slice p l c, .int .i64 x])) w := ⟨((p, l, c), x, ()), rfl, h⟩
/-- rtMade. -/
theorem F12_spec {n : Nat} {mp : Option Addr} {mc : Nat} {ms : List (Nat → Int)} (hn : n ≤ 3) (hM : Mvs .i8 w mp ms)
    (hk : ∀ w' p c q d xs, xs.length ≤ 30 → (∀ x ∈ xs, x.1.length = n) → Sl (DoK 87) w' p xs → Lp w' q d (putsP [] xs) → Fr (fun _ => False) w w' → k (.tuple #[.agg #[.int .i64 1, .int .i64 0, .slice p xs.length c, .slice none 0 0, .slice none 0 0, .int .u64 0, .int .i64 0, .int .i64 0, .int .i64 0], .slice q (putsP [] xs).length d]) w') : F12 k ((n : Nat) : Int) mp ms.length mc 30 w := by
  obtain ⟨i87, g1, g2, g3, g4⟩ := inf87
  unfold F12
  refine new_intro fun n4 w1 e1 b1 f1 z1 => new_intro fun n5 w2 e2 b2 f2 z2 => ?_
  refine store_intro (i := 0) b2 (by simp) rfl fun w3 b3 f3 z3 => ?_
  refine store_intro (i := 1) b3 (by simp) rfl fun w4 b4 f4 z4 => ?_
  refine store_intro (i := 2) b4 (by simp) rfl fun w5 b5 f5 z5 => ?_
  refine store_intro (i := 3) b5 (by simp) rfl fun w6 b6 f6 z6 => ?_
  refine store_intro (i := 4) b6 (by simp) rfl fun w7 b7 f7 z7 => ?_
  refine store_intro (i := 5) b7 (by simp) rfl fun w8 b8 f8 z8 => ?_
  refine store_intro (i := 6) b8 (by simp) rfl fun w9 b9 f9 z9 => ?_
  refine store_intro (i := 7) b9 (by simp) rfl fun wa ba fa za => ?_
  refine store_intro (i := 8) ba (by simp) rfl fun wb bb fb zb => ?_
  have bb : Blk wb n5 49 [.int .i64 1, .int .i64 0, .slice none 0 0, .slice none 0 0, .slice none 0 0, .int .u64 0, .int .i64 0, .int .i64 0, .int .i64 0] := bb
  have i : ∀ x, x = n5 → x = n5 ∨ w2.heap.size ≤ x := fun _ h => .inl h
  have f2b : Fr (fun b => b = n5) w2 wb := (((((((f3.trans f4 i).trans f5 i).trans f6 i).trans f7 i).trans f8 i).trans f9 i).trans fa i).trans fb i
  have c4 : Blk wb n4 49 [.int .i64 0, .int .i64 0, .slice none 0 0, .slice none 0 0, .slice none 0 0, .int .u64 0, .int .i64 0, .int .i64 0, .int .i64 0] := (b1.fr f2 id).fr f2b (fun e => by omega)
  have f0b : Fr (fun _ => False) w wb := (f1.trans f2 fun _ h => h.elim).trans f2b fun b hb => .inr (by have hb : b = n5 := hb; omega)
  -- the end
  have fin : ∀ (wz : World) (p : Option Addr) (c : Nat) (q : Option Addr) (d : Nat) (xs : List PD), xs.length ≤ 30 → (∀ x ∈ xs, x.1.length = n) → Sl (DoK 87) wz p xs → Lp wz q d (putsP [] xs) → Fr (fun _ => False) w wz →
      Blk wz n4 49 [.int .i64 0, .int .i64 0, .slice none 0 0, .slice none 0 0, .slice none 0 0, .int .u64 0, .int .i64 0, .int .i64 0, .int .i64 0] →
      Blk wz n5 49 [.int .i64 1, .int .i64 0, .slice p xs.length c, .slice none 0 0, .slice none 0 0, .int .u64 0, .int .i64 0, .int .i64 0, .int .i64 0] →
      F12_J1 k ⟨n4, 0, none⟩ ⟨n5, 0, none⟩ q (putsP [] xs).length d wz := fun wz p c q d xs hxl hxs hS hL fz d4 d5 => by
    unfold F12_J1
    simp only [add_mk, Nat.zero_add]
    refine load_int (i := 0) d5 rfl (load_int (i := 1) d5 rfl (load_slice (i := 2) d5 rfl (load_slice (i := 3) d5 rfl (load_slice (i := 4) d5 rfl (load_int (i := 5) d5 rfl (load_int (i := 6) d5 rfl (load_int (i := 7) d5 rfl (load_int (i := 8) d5 rfl ?_))))))))
    refine store_intro (i := 0) d4 (by simp) rfl fun w3 b3 f3 z3 => ?_
    refine store_intro (i := 1) b3 (by simp) rfl fun w4 b4 f4 z4 => ?_
    refine store_intro (i := 2) b4 (by simp) rfl fun w5 b5 f5 z5 => ?_
    refine store_intro (i := 3) b5 (by simp) rfl fun w6 b6 f6 z6 => ?_
    refine store_intro (i := 4) b6 (by simp) rfl fun w7 b7 f7 z7 => ?_
    refine store_intro (i := 5) b7 (by simp) rfl fun w8 b8 f8 z8 => ?_
    refine store_intro (i := 6) b8 (by simp) rfl fun w9 b9 f9 z9 => ?_
    refine store_intro (i := 7) b9 (by simp) rfl fun wa ba fa za => ?_
    refine store_intro (i := 8) ba (by simp) rfl fun wb bb fb zb => ?_
    have bb : Blk wb n4 49 [.int .i64 1, .int .i64 0, .slice p xs.length c, .slice none 0 0, .slice none 0 0, .int .u64 0, .int .i64 0, .int .i64 0, .int .i64 0] := bb
    have i : ∀ x, x = n4 → x = n4 ∨ wz.heap.size ≤ x := fun _ h => .inl h
    have fzb : Fr (fun b => b = n4) wz wb := (((((((f3.trans f4 i).trans f5 i).trans f6 i).trans f7 i).trans f8 i).trans f9 i).trans fa i).trans fb i
    have T : Tys (fun b => b = n4) wz [49] := Tys.one d4
    refine load_int (i := 0) bb rfl (load_int (i := 1) bb rfl (load_slice (i := 2) bb rfl (load_slice (i := 3) bb rfl (load_slice (i := 4) bb rfl (load_int (i := 5) bb rfl (load_int (i := 6) bb rfl (load_int (i := 7) bb rfl (load_int (i := 8) bb rfl ?_))))))))
    exact hk wb p c q d xs hxl hxs (hS.fr fzb T (by decide)) ⟨hL.1.fr fzb T (by decide), hL.2⟩ (fz.trans fzb fun b hb => .inr (by have hb : b = n4 := hb; omega))
  refine F12_L1_rule (I := fun dn mp' ml mc' most a4 a5 np nl nc i w' => dn = ((n : Nat) : Int) ∧ mp' = mp ∧ ml = ms.length ∧ most = 30 ∧ a4 = ⟨n4, 0, none⟩ ∧ a5 = ⟨n5, 0, none⟩ ∧ ∃ (t : Nat) (xs : List PD) (p : Option Addr) (c : Nat), i = ((t : Nat) : Int) ∧ t ≤ 30 ∧ xs.length = t ∧ (∀ x ∈ xs, x.1.length = n) ∧ SlO (DoK 87) w' p t c xs ∧ Lp w' np nc (putsP [] xs) ∧ nl = (putsP [] xs).length ∧
      Blk w' n4 49 [.int .i64 0, .int .i64 0, .slice none 0 0, .slice none 0 0, .slice none 0 0, .int .u64 0, .int .i64 0, .int .i64 0, .int .i64 0] ∧
      Blk w' n5 49 [.int .i64 1, .int .i64 0, .slice p t c, .slice none 0 0, .slice none 0 0, .int .u64 0, .int .i64 0, .int .i64 0, .int .i64 0] ∧ (∀ b, bl p b → w.heap.size ≤ b) ∧ Fr (fun _ => False) w w')
    (μ := fun dn mp' ml mc' most a4 a5 np nl nc i w' => 31 - i.toNat) ?_ ⟨rfl, rfl, rfl, rfl, rfl, rfl, 0, [], none, 0, rfl, by omega, rfl, (fun x hx => by cases hx), SlO.nil _ _, ⟨Sl.nil _ _ _, Nat.zero_le _⟩, rfl, c4, bb, (fun b ⟨_, h, _⟩ => by cases h), f0b⟩
  rintro dn mp' ml mc' most a4 a5 np nl nc ii w1' ⟨rfl, e1, e2, e3, e4, e5, t, xs, p, c, rfl, ht, hxl, hxs, O, hL, e6, d4, d5, hp, fz⟩
  unfold F12_L1
  rw [e1, e2, e3, e4, e5, e6]
  by_cases hlt : t < ms.length
  · rw [decide_eq_true (show ((t : Nat) : Int) < ((ms.length : Nat) : Int) by omega), BIf_true]
    by_cases h30 : t < 30
    · rw [decide_eq_true (show ((t : Nat) : Int) < 30 by omega), BIf_true]
      have hm : ms[t]? = some ms[t] := List.getElem?_eq_getElem hlt
      generalize ms[t] = r at hm
      obtain ⟨a, ep, hM8⟩ := (hM.fr0 fz) t r hm
      rw [ep]
      simp only [NN_mk, Int.toNat_natCast]
      refine Req_iff.2 ⟨by omega, LoadT_int.2 ⟨_, (hM8 0 (by omega)).1, LoadT_int.2 ⟨_, (hM8 1 (by omega)).1, LoadT_int.2 ⟨_, (hM8 2 (by omega)).1, LoadT_int.2 ⟨_, (hM8 3 (by omega)).1, LoadT_int.2 ⟨_, (hM8 4 (by omega)).1, LoadT_int.2 ⟨_, (hM8 5 (by omega)).1, LoadT_int.2 ⟨_, (hM8 6 (by omega)).1, LoadT_int.2 ⟨_, (hM8 7 (by omega)).1, ?_⟩⟩⟩⟩⟩⟩⟩⟩⟩
      rw [addI_i64 (by omega) (by omega)]
      refine F29_call (F29_spec hn fun w2 p2 c2 l hl hS2 f2 => back_si ?_)
      refine new_intro fun n25 w3 e3' b3 f3 z3 => ?_
      refine store_intro (i := 0) b3 (by simp) rfl fun w4 b4 f4 z4 => ?_
      refine store_intro (i := 1) b4 (by simp) rfl fun w5 b5 f5 z5 => ?_
      have b5 : Blk w5 n25 85 [.slice p2 n c2, .int .i64 (((t : Nat) : Int) + 1)] := b5
      refine drw_intro fun w6 f6 z6 => ?_
      have f26 : Fr (fun _ => False) w2 w6 := by
        have : Fr (fun b => b = n25) w2 w6 := (((f3.mono (S' := fun b => b = n25) fun _ h => h.elim).trans f4 fun _ h => .inl h).trans f5 fun _ h => .inl h).trans f6 fun _ h => h.elim
        exact this.mono fun b h => .inr (by have h : b = n25 := h; omega)
      have f16 := f2.trans f26 fun _ h => h.elim
      have b6 := b5.fr f6 id
      have d56 := d5.fr f16 id
      simp only [add_mk, Nat.zero_add]
      refine load_slice (i := 2) d56 rfl (load_slice (i := 0) b6 rfl (load_int (i := 1) b6 rfl ?_))
      rw [← hl]
      refine F30_call (F30_spec (hS2.fr0 f26) (by omega) fun w7 p7 c7 hS7 f7 => back_si ?_)
      have f17 := f16.trans f7 fun _ h => h.elim
      have d57 := d56.fr f7 id
      have b7 := b6.fr f7 id
      refine chk (i := 2) d57 rfl ?_
      refine build_intro und46 g1 g2 (by omega) (by omega) (fill87 p7 l.length c7 _ i87 g3) fun w8 f8 b8 z8 => ?_
      have f18 := f17.trans f8 fun _ h => h.elim
      have d58 := d57.fr f8 id
      have b28 := b7.fr f8 id
      refine chk (i := 0) b28 (by rw [hl]; rfl) (chk (i := 1) b28 rfl (chk (i := 2) d58 rfl ?_))
      have O8 := O.fr0 f18
      refine SlO.append (K := DoK 87) und46 g1 g2 g3 (by decide) rfl g4 (by decide) O8 b8 (ys := [(l, ((t : Nat) : Int) + 1)]) (Rows.one ⟨p7, c7, rfl, rfl, hS7.fr0 f8⟩) rfl rfl (fun u hu => ?_) (by omega) fun p9 c9 w9 f9 O9 hp9 => ?_
      · simp only [List.mem_cons, List.not_mem_nil, or_false] at hu
        rcases hu with rfl | rfl <;> rfl
      have T9 : Tys (fun b => bl p b) w8 [87] := O8.ty
      have b29 := blk_ty b28 f9 T9 (by decide)
      have d59 := blk_ty d58 f9 T9 (by decide)
      have d49 := blk_ty (d4.fr f18 id) f9 T9 (by decide)
      refine chk (i := 0) b29 (by rw [hl]; rfl) (chk (i := 1) b29 rfl ?_)
      refine store_intro (i := 2) d59 (by simp) rfl fun wa ba fa za => ?_
      have ba : Blk wa n5 49 [.int .i64 1, .int .i64 0, .slice p9 (t + 1) c9, .slice none 0 0, .slice none 0 0, .int .u64 0, .int .i64 0, .int .i64 0, .int .i64 0] := ba
      have Ta : Tys (fun b => b = n5) w9 [49] := Tys.one d59
      have b2a := blk_ty b29 fa Ta (by decide)
      refine load_slice (i := 0) b2a rfl (load_int (i := 1) b2a rfl ?_)
      have hz1 := fz.size
      have z18 := f18.size
      have fza : Fr (fun _ => False) w wa := ((fz.trans f18 fun _ h => h.elim).trans f9 fun b hb => .inr (hp b hb)).trans fa fun b hb => .inr (by have hb : b = n5 := hb; omega)
      have Lpa : Lp wa np nc (putsP [] xs) := ⟨((hL.1.fr0 f18).fr f9 T9 (by decide)).fr fa Ta (by decide), hL.2⟩
      have S2a : Sl In64K wa p2 l := (((((hS2.fr0 f26).fr0 f7).fr0 f8).fr f9 T9 (by decide)).fr fa Ta (by decide))
      have hpl := putsP_le xs []
      rw [← hl]
      refine F31_call (F31_spec (x := (l, ((t : Nat) : Int) + 1)) (n := n) Lpa S2a (putsP_srt hxs ⟨fun x hx => (by cases hx), List.Pairwise.nil⟩) hl (by omega) (by simp at hpl; omega) fun wc pc cc hLc fc => back_slice ?_)
      have Oc := (O9.fr fa Ta (by decide)).fr0 fc
      have esn := putsP_snoc [] xs (l, ((t : Nat) : Int) + 1)
      rw [← esn] at hLc ⊢
      refine ⟨⟨by trivial, by trivial, by trivial, by trivial, by trivial, by trivial, t + 1, xs ++ [(l, ((t : Nat) : Int) + 1)], p9, c9, by omega, by omega, by simp [hxl], fun x hx => ?_, Oc, hLc, rfl, (d49.fr fa (fun e => by omega)).fr fc id, ba.fr fc id, fun b hb => ?_, fza.trans fc fun _ h => h.elim⟩, ?_⟩
      · rcases List.mem_append.1 hx with h | h
        · exact (hxs x h).trans hl.symm
        · rw [List.mem_singleton] at h; rw [h]
      · rcases hp9 b hb with h | h
        · exact hp b h
        · omega
      · show 31 - (((t : Nat) : Int) + 1).toNat < 31 - ((t : Nat) : Int).toNat
        omega
    · rw [decide_eq_false (show ¬ ((t : Nat) : Int) < 30 by omega), BIf_false]
      exact fin w1' p c np nc xs (by omega) hxs O.sl hL fz d4 (by rw [hxl]; exact d5)
  · rw [decide_eq_false (show ¬ ((t : Nat) : Int) < ((ms.length : Nat) : Int) by omega), BIf_false]
    exact fin w1' p c np nc xs (by omega) hxs O.sl hL fz d4 (by rw [hxl]; exact d5)
end
end Go.Proofs.Ytfokodpnoiilbaa.E
