/-
  Range trees: the entries of a statement (rtMade); the first law (FnRTApplies).
-/
import Derived.Test.YtfokodpnoiilbaaGreatRG
namespace Go.Proofs.YtfokodpnoiilbaaGreat.E
open Go
set_option linter.unusedSimpArgs false
set_option linter.unusedVariables false
set_option maxRecDepth 100000
set_option maxHeartbeats 8000000

/-! ## Plain -/
def putsP (l : List PD) (xs : List PD) : List PD := xs.foldl insP l
theorem putsP_snoc (l xs : List PD) (x : PD) : putsP l (xs ++ [x]) = insP (putsP l xs) x := by unfold putsP; rw [List.foldl_append]; rfl
theorem insP_le (x : PD) : ∀ l : List PD, (insP l x).length ≤ l.length + 1
  | [] => Nat.le_refl _
  | y :: l => by
    rw [insP_cons]
    split
    · have := insP_le x l; simp only [List.length_cons]; omega
    · split <;> simp
theorem putsP_le : ∀ (xs l : List PD), (putsP l xs).length ≤ l.length + xs.length
  | [], l => Nat.le_refl _
  | x :: xs, l => by
    show (putsP (insP l x) xs).length ≤ _
    have := putsP_le xs (insP l x)
    have := insP_le x l
    simp only [List.length_cons]; omega
theorem putsP_srt {n : Nat} : ∀ {xs l : List PD}, (∀ x ∈ xs, x.1.length = n) → SrtP n l → SrtP n (putsP l xs)
  | [], _, _, h => h
  | x :: xs, l, hx, h => putsP_srt (xs := xs) (fun y hy => hx y (List.mem_cons_of_mem _ hy)) (insP_srt (hx x List.mem_cons_self) h)
/-- A tree and a list with the same entries. -/
structure Same (n : Nat) (M : OP n) (l : List PD) : Prop where
  sm : SrtN n M
  sl : SrtP n l
  get : ∀ k : List Int, k.length = n → getON n M k = (fndP k l).map some
  sz : szN n M = l.length
theorem kyP_full (l : List Int) : kyP l l.length 1 = l := by
  have : ∀ (m : Nat) (a : List Int) (i : Nat), a = (l.drop i).take m → i + m ≤ l.length → kyP l m (i + 1) = a := fun m => by
    induction m with
    | zero => intro a i h _; rw [h]; simp [kyP]
    | succ m ih =>
      intro a i h hi
      have e : plI l (i + 1) = l[i]'(by omega) := by
        unfold plI
        rw [if_neg (by omega), Nat.add_sub_cancel, List.getD_eq_getElem?_getD, List.getElem?_eq_getElem (by omega)]; rfl
      have d : l.drop i = l[i]'(by omega) :: l.drop (i + 1) := List.drop_eq_getElem_cons (by omega)
      show plI l (i + 1) :: kyP l m (i + 1 + 1) = a
      rw [e, ih _ (i + 1) rfl (by omega), h, d, List.take_succ_cons]
  exact this l.length l 0 (by simp) (by simp)
theorem Same.add {n : Nat} {M : OP n} {l : List PD} {x : PD} (h : Same n M l) (hx : x.1.length = n) : Same n (addP n M x) (insP l x) ∧ oldP n M x = fndP x.1 l := by
  have hk : kyP x.1 n 1 = x.1 := by rw [← hx]; exact kyP_full x.1
  have hg := h.get x.1 hx
  refine ⟨⟨srt_add n M _ _ h.sm, insP_srt hx h.sl, fun k hkl => ?_, ?_⟩, ?_⟩
  · unfold addP
    rw [get_add n M _ k _ h.sm (by rw [hk]; exact hx) hkl, hk, fndP_ins hx h.sl, h.get k hkl]
    split <;> rfl
  · unfold addP
    rw [szN_add n M _ _ h.sm (by rw [hk]; exact hx), hk, hg, insP_len hx h.sl, h.sz]
    cases fndP x.1 l <;> rfl
  · unfold oldP
    rw [hk, hg]
    cases fndP x.1 l <;> rfl
theorem Same.adds {n : Nat} : ∀ {xs : List PD} {M : OP n} {l : List PD}, Same n M l → (∀ x ∈ xs, x.1.length = n) → Same n (addsP n M xs) (putsP l xs)
  | [], _, _, h, _ => h
  | x :: xs, M, l, h, hx => Same.adds (xs := xs) (h.add (hx x List.mem_cons_self)).1 fun y hy => hx y (List.mem_cons_of_mem _ hy)
theorem Same.nil {n : Nat} (hn : 1 ≤ n) : Same n (mapE n (nilN n)) [] := by
  obtain ⟨m, rfl⟩ : ∃ m, n = m + 1 := ⟨n - 1, by omega⟩
  refine ⟨⟨List.Pairwise.nil, fun p hp => by cases hp⟩, ⟨fun x hx => (by cases hx), List.Pairwise.nil⟩, fun k hk => ?_, rfl⟩
  match k, hk with
  | v :: vs, _ => rfl
section
variable {w : World} {k : Value → W}
theorem back_si {f : Option Addr → Nat → Nat → Int → W} {p : Option Addr} {l c : Nat} {x : Int} (h : f p l c x w) : Back (.s (.agg [.slice, (.int .i64)])) f (.returned (.agg #[.slice p l c, .int .i64 x])) w := ⟨((p, l, c), x, ()), rfl, h⟩
end
end Go.Proofs.YtfokodpnoiilbaaGreat.E
