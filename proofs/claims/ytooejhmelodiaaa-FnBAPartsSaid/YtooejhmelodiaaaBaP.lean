/-
  Sparse bit arrays, plain: blocks by their indices; what is common, what one has alone, what both have; counts.
-/
import Derived.Test.YtooejhmelodiaaaBits
import Derived.Test.YtooejhmelodiaaaPop
namespace Go.Proofs.Ytooejhmelodiaaa.E
set_option linter.unusedSimpArgs false
set_option linter.unusedVariables false

abbrev Sp := List (Nat × Nat)
def Srt (P : Sp) : Prop := P.Pairwise fun a b => a.1 < b.1
def Ok1 (p : Nat × Nat) : Prop := 0 < p.2 ∧ p.2 < 18446744073709551616 ∧ p.1 < 18014398509481984
structure Good (P : Sp) : Prop where
  s : Srt P
  o : ∀ p ∈ P, Ok1 p
theorem Good.nil : Good [] := ⟨List.Pairwise.nil, fun _ h => by cases h⟩
theorem Good.tail {p : Nat × Nat} {P : Sp} (h : Good (p :: P)) : Good P := ⟨(List.pairwise_cons.1 h.s).2, fun q hq => h.o q (List.mem_cons_of_mem _ hq)⟩
theorem Good.head {p : Nat × Nat} {P : Sp} (h : Good (p :: P)) : Ok1 p := h.o p (List.mem_cons_self ..)
theorem Good.lt {p : Nat × Nat} {P : Sp} (h : Good (p :: P)) : ∀ q ∈ P, p.1 < q.1 := (List.pairwise_cons.1 h.s).1
/-- All indices are greater. -/
def Gt (i : Nat) (P : Sp) : Prop := ∀ p ∈ P, i < p.1
theorem Good.cons {p : Nat × Nat} {P : Sp} (h : Good P) (hp : Ok1 p) (hg : Gt p.1 P) : Good (p :: P) :=
  ⟨List.pairwise_cons.2 ⟨hg, h.s⟩, fun q hq => by rcases List.mem_cons.1 hq with rfl | hq; exact hp; exact h.o q hq⟩
theorem Gt.mono {i j : Nat} {P : Sp} (h : Gt j P) (hij : i ≤ j) : Gt i P := fun p hp => Nat.lt_of_le_of_lt hij (h p hp)
theorem Gt.cons {i : Nat} {p : Nat × Nat} {P : Sp} (h : i < p.1) (h' : Gt i P) : Gt i (p :: P) := fun q hq => by
  rcases List.mem_cons.1 hq with rfl | hq
  · exact h
  · exact h' q hq
/-- The bits of one word that another one has not. -/
def dif (b c : Nat) : Nat := b ^^^ (b &&& c)
theorem dif_bit (b c i : Nat) : (dif b c).testBit i = (b.testBit i && !c.testBit i) := by
  unfold dif
  rw [Nat.testBit_xor, Nat.testBit_and]
  cases b.testBit i <;> cases c.testBit i <;> rfl
theorem and_or_dif (b c : Nat) : (b &&& c) ||| dif b c = b := by
  apply Nat.eq_of_testBit_eq
  intro i
  rw [Nat.testBit_or, Nat.testBit_and, dif_bit]
  cases b.testBit i <;> cases c.testBit i <;> rfl
theorem and_and_dif (b c : Nat) : (b &&& c) &&& dif b c = 0 := by
  apply Nat.eq_of_testBit_eq
  intro i
  rw [Nat.testBit_and, Nat.testBit_and, dif_bit, Nat.zero_testBit]
  cases b.testBit i <;> cases c.testBit i <;> rfl
def pop (b : Nat) : Nat := cnt 64 b.testBit
theorem cnt_split (n : Nat) (f g h : Nat → Bool) (e : ∀ i, (f i).toNat = (g i).toNat + (h i).toNat) : cnt n f = cnt n g + cnt n h := by
  induction n with
  | zero => rfl
  | succ n ih => simp only [cnt]; rw [ih, e n]; omega
theorem pop_split (b c : Nat) : pop b = pop (b &&& c) + pop (dif b c) := by
  refine cnt_split 64 _ _ _ fun i => ?_
  rw [Nat.testBit_and, dif_bit]
  cases b.testBit i <;> cases c.testBit i <;> rfl
theorem pop_zero : pop 0 = 0 := by
  have : ∀ n, cnt n (Nat.testBit 0) = 0 := fun n => by
    induction n with
    | zero => rfl
    | succ n ih => simp only [cnt]; rw [ih, Nat.zero_testBit]; rfl
  exact this 64
theorem and_lt {b c : Nat} (h : b < 18446744073709551616) : (b &&& c) < 18446744073709551616 := Nat.lt_of_le_of_lt Nat.and_le_left h
theorem dif_lt {b c : Nat} (h : b < 18446744073709551616) : dif b c < 18446744073709551616 := by
  have := Nat.xor_lt_two_pow (n := 64) (x := b) (y := b &&& c) (by omega) (by have := and_lt (c := c) h; omega)
  unfold dif; omega
theorem or_lt {b c : Nat} (h : b < 18446744073709551616) (h' : c < 18446744073709551616) : (b ||| c) < 18446744073709551616 := by
  have := Nat.or_lt_two_pow (n := 64) (x := b) (y := c) (by omega) (by omega)
  omega
theorem or_pos {b c : Nat} (h : 0 < b) : 0 < b ||| c := Nat.lt_of_lt_of_le h Nat.left_le_or

/-- A further pair, if there is anything in it. -/
def cn (i b : Nat) (P : Sp) : Sp := if b = 0 then P else (i, b) :: P
def andM : Sp → Sp → Sp
  | [], _ => []
  | _, [] => []
  | (i, b) :: P, (j, c) :: Q => if j < i then andM ((i, b) :: P) Q else if i < j then andM P ((j, c) :: Q) else cn i (b &&& c) (andM P Q)
termination_by P Q => P.length + Q.length
def nandM : Sp → Sp → Sp
  | [], _ => []
  | P, [] => P
  | (i, b) :: P, (j, c) :: Q => if j < i then nandM ((i, b) :: P) Q else if i < j then (i, b) :: nandM P ((j, c) :: Q) else cn i (dif b c) (nandM P Q)
termination_by P Q => P.length + Q.length
def orM : Sp → Sp → Sp
  | [], Q => Q
  | P, [] => P
  | (i, b) :: P, (j, c) :: Q => if i < j then (i, b) :: orM P ((j, c) :: Q) else if j < i then (j, c) :: orM ((i, b) :: P) Q else (i, b ||| c) :: orM P Q
termination_by P Q => P.length + Q.length
theorem andM_nil (P : Sp) : andM P [] = [] := by cases P <;> simp [andM]
theorem andM_nil' (P : Sp) : andM [] P = [] := by simp [andM]
theorem nandM_nil (P : Sp) : nandM P [] = P := by cases P <;> simp [nandM]
theorem nandM_nil' (P : Sp) : nandM [] P = [] := by simp [nandM]
theorem orM_nil (P : Sp) : orM P [] = P := by cases P <;> simp [orM]
theorem orM_nil' (P : Sp) : orM [] P = P := by simp [orM]
theorem cn_gt {i b j : Nat} {P : Sp} (h : Gt j P) (hij : j < i) : Gt j (cn i b P) := by
  unfold cn; split
  · exact h
  · exact Gt.cons hij h
theorem cn_good {i b : Nat} {P : Sp} (h : Good P) (hg : Gt i P) (hb : b < 18446744073709551616) (hi : i < 18014398509481984) : Good (cn i b P) := by
  unfold cn; split
  · exact h
  · rename_i h0; exact h.cons ⟨Nat.pos_of_ne_zero h0, hb, hi⟩ hg
theorem merge_good : ∀ (n : Nat) (P Q : Sp), P.length + Q.length ≤ n → Good P → Good Q →
    (Good (andM P Q) ∧ Good (nandM P Q) ∧ ∀ i, Gt i P → Gt i (andM P Q) ∧ Gt i (nandM P Q))
  | _, [], Q, _, hP, hQ => by rw [andM_nil', nandM_nil']; exact ⟨Good.nil, Good.nil, fun i h => ⟨h, h⟩⟩
  | _, (i, b) :: P, [], _, hP, hQ => by rw [andM_nil, nandM_nil]; exact ⟨Good.nil, hP, fun i h => ⟨(fun _ h => by cases h), h⟩⟩
  | 0, (i, b) :: P, (j, c) :: Q, hn, hP, hQ => by simp at hn
  | n + 1, (i, b) :: P, (j, c) :: Q, hn, hP, hQ => by
    simp only [List.length_cons] at hn
    have hb : 0 < b ∧ b < 18446744073709551616 ∧ i < 18014398509481984 := hP.head
    rw [andM, nandM]
    by_cases h1 : j < i
    · rw [if_pos h1, if_pos h1]
      exact merge_good n _ Q (by simp; omega) hP hQ.tail
    · rw [if_neg h1, if_neg h1]
      by_cases h2 : i < j
      · rw [if_pos h2, if_pos h2]
        obtain ⟨g1, g2, g3⟩ := merge_good n P ((j, c) :: Q) (by simp; omega) hP.tail hQ
        refine ⟨g1, g2.cons hb (g3 i hP.lt).2, fun k hk => ?_⟩
        have hk' : Gt k P := fun p hp => hk p (List.mem_cons_of_mem _ hp)
        exact ⟨(g3 k hk').1, Gt.cons (hk _ (List.mem_cons_self ..)) (g3 k hk').2⟩
      · rw [if_neg h2, if_neg h2]
        obtain ⟨g1, g2, g3⟩ := merge_good n P Q (by omega) hP.tail hQ.tail
        refine ⟨cn_good g1 (g3 i hP.lt).1 (and_lt hb.2.1) hb.2.2, cn_good g2 (g3 i hP.lt).2 (dif_lt hb.2.1) hb.2.2, fun k hk => ?_⟩
        have hk' : Gt k P := fun p hp => hk p (List.mem_cons_of_mem _ hp)
        have := hk _ (List.mem_cons_self ..)
        exact ⟨cn_gt (g3 k hk').1 this, cn_gt (g3 k hk').2 this⟩
theorem orM_left {i b : Nat} {P Q : Sp} (h : Gt i Q) : orM ((i, b) :: P) Q = (i, b) :: orM P Q := by
  cases Q with
  | nil => rw [orM_nil, orM_nil]
  | cons q Q => obtain ⟨j, c⟩ := q; rw [orM, if_pos (show i < j from h _ (List.mem_cons_self ..))]
theorem orM_right {i b : Nat} {P Q : Sp} (h : Gt i P) : orM P ((i, b) :: Q) = (i, b) :: orM P Q := by
  cases P with
  | nil => rw [orM_nil', orM_nil']
  | cons p P =>
    obtain ⟨j, c⟩ := p
    have : i < j := h _ (List.mem_cons_self ..)
    rw [orM, if_neg (by omega), if_pos this]
theorem orM_same {i b c : Nat} {P Q : Sp} : orM ((i, b) :: P) ((i, c) :: Q) = (i, b ||| c) :: orM P Q := by
  rw [orM, if_neg (Nat.lt_irrefl _), if_neg (Nat.lt_irrefl _)]
theorem andM_left {i b : Nat} {P Q : Sp} (h : Gt i Q) : andM ((i, b) :: P) Q = andM P Q := by
  cases Q with
  | nil => rw [andM_nil, andM_nil]
  | cons q Q =>
    obtain ⟨j, c⟩ := q
    have : i < j := h _ (List.mem_cons_self ..)
    rw [andM, if_neg (by omega), if_pos this]
theorem andM_right {i b : Nat} {P Q : Sp} (h : Gt i P) : andM P ((i, b) :: Q) = andM P Q := by
  cases P with
  | nil => rw [andM_nil', andM_nil']
  | cons p P =>
    obtain ⟨j, c⟩ := p
    have : i < j := h _ (List.mem_cons_self ..)
    rw [andM, if_pos this]
theorem andM_same {i b c : Nat} {P Q : Sp} : andM ((i, b) :: P) ((i, c) :: Q) = cn i (b &&& c) (andM P Q) := by
  rw [andM, if_neg (Nat.lt_irrefl _), if_neg (Nat.lt_irrefl _)]
def tot (P : Sp) : Nat := (P.map fun p => pop p.2).sum
theorem tot_cons (p : Nat × Nat) (P : Sp) : tot (p :: P) = pop p.2 + tot P := by simp [tot]
theorem tot_cn (i b : Nat) (P : Sp) : tot (cn i b P) = pop b + tot P := by
  unfold cn; split
  · rename_i h; subst h; rw [pop_zero, Nat.zero_add]
  · rw [tot_cons]
/-- The common ones and the others together are all; none is in both; they are as many. -/
theorem parts : ∀ (n : Nat) (P Q : Sp), P.length + Q.length ≤ n → Good P → Good Q →
    orM (andM P Q) (nandM P Q) = P ∧ andM (andM P Q) (nandM P Q) = [] ∧ tot (andM P Q) + tot (nandM P Q) = tot P
  | _, [], Q, _, hP, hQ => by rw [andM_nil', nandM_nil', orM_nil, andM_nil]; exact ⟨rfl, rfl, rfl⟩
  | _, (i, b) :: P, [], _, hP, hQ => by rw [andM_nil, nandM_nil, orM_nil', andM_nil']; exact ⟨rfl, rfl, by simp [tot]⟩
  | 0, (i, b) :: P, (j, c) :: Q, hn, hP, hQ => by simp at hn
  | n + 1, (i, b) :: P, (j, c) :: Q, hn, hP, hQ => by
    simp only [List.length_cons] at hn
    have hb : 0 < b ∧ b < 18446744073709551616 ∧ i < 18014398509481984 := hP.head
    rw [andM, nandM]
    by_cases h1 : j < i
    · rw [if_pos h1, if_pos h1]
      exact parts n _ Q (by simp; omega) hP hQ.tail
    · rw [if_neg h1, if_neg h1]
      by_cases h2 : i < j
      · rw [if_pos h2, if_pos h2]
        obtain ⟨g1, g2, g3⟩ := parts n P ((j, c) :: Q) (by simp; omega) hP.tail hQ
        have hg := ((merge_good _ P ((j, c) :: Q) (Nat.le_refl _) hP.tail hQ).2.2 i hP.lt).1
        rw [orM_right hg, g1, andM_right hg, g2, tot_cons, tot_cons]
        exact ⟨rfl, rfl, by omega⟩
      · rw [if_neg h2, if_neg h2]
        obtain ⟨g1, g2, g3⟩ := parts n P Q (by omega) hP.tail hQ.tail
        obtain ⟨t1, t2⟩ := (merge_good _ P Q (Nat.le_refl _) hP.tail hQ.tail).2.2 i hP.lt
        have e1 := and_or_dif b c
        have e2 := and_and_dif b c
        have e3 := pop_split b c
        refine ⟨?_, ?_, by rw [tot_cn, tot_cn, tot_cons]; show _ = pop b + _; omega⟩
        · by_cases z1 : b &&& c = 0
          · have e4 : dif b c = b := by rw [z1, Nat.zero_or] at e1; exact e1
            rw [show cn i (b &&& c) (andM P Q) = andM P Q by unfold cn; rw [if_pos z1], e4, show cn i b (nandM P Q) = (i, b) :: nandM P Q by unfold cn; rw [if_neg (by omega)], orM_right t1, g1]
          · rw [show cn i (b &&& c) (andM P Q) = (i, b &&& c) :: andM P Q by unfold cn; rw [if_neg z1]]
            by_cases z2 : dif b c = 0
            · have e4 : b &&& c = b := by rw [z2, Nat.or_zero] at e1; exact e1
              rw [show cn i (dif b c) (nandM P Q) = nandM P Q by unfold cn; rw [if_pos z2], orM_left t2, g1, e4]
            · rw [show cn i (dif b c) (nandM P Q) = (i, dif b c) :: nandM P Q by unfold cn; rw [if_neg z2], orM_same, g1, e1]
        · by_cases z1 : b &&& c = 0
          · rw [show cn i (b &&& c) (andM P Q) = andM P Q by unfold cn; rw [if_pos z1]]
            unfold cn; split
            · exact g2
            · rw [andM_right t1]; exact g2
          · rw [show cn i (b &&& c) (andM P Q) = (i, b &&& c) :: andM P Q by unfold cn; rw [if_neg z1]]
            by_cases z2 : dif b c = 0
            · rw [show cn i (dif b c) (nandM P Q) = nandM P Q by unfold cn; rw [if_pos z2], andM_left t2, g2]
            · rw [show cn i (dif b c) (nandM P Q) = (i, dif b c) :: nandM P Q by unfold cn; rw [if_neg z2], andM_same, e2]
              unfold cn; rw [if_pos rfl]; exact g2

/-! ## A bit set -/
def lo (i : Nat) (P : Sp) : Sp := P.filter fun p => decide (p.1 < i)
def hi (i : Nat) (P : Sp) : Sp := P.filter fun p => decide (i < p.1)
def at_ (i : Nat) (P : Sp) : Nat := ((P.find? fun p => decide (p.1 = i)).map Prod.snd).getD 0
def setP (i m : Nat) (P : Sp) : Sp := lo i P ++ (i, at_ i P ||| m) :: hi i P
def plc (i : Nat) (P : Sp) : Nat := (lo i P).length
theorem mem_lo {i : Nat} {P : Sp} {p : Nat × Nat} : p ∈ lo i P ↔ p ∈ P ∧ p.1 < i := by simp [lo]
theorem mem_hi {i : Nat} {P : Sp} {p : Nat × Nat} : p ∈ hi i P ↔ p ∈ P ∧ i < p.1 := by simp [hi]
theorem lo_all {i : Nat} {P : Sp} (h : ∀ p ∈ P, p.1 < i) : lo i P = P := List.filter_eq_self.2 fun p hp => by simpa using h p hp
theorem lo_none {i : Nat} {P : Sp} (h : ∀ p ∈ P, ¬ p.1 < i) : lo i P = [] := List.filter_eq_nil_iff.2 fun p hp => by simpa using h p hp
theorem hi_all {i : Nat} {P : Sp} (h : ∀ p ∈ P, i < p.1) : hi i P = P := List.filter_eq_self.2 fun p hp => by simpa using h p hp
theorem hi_none {i : Nat} {P : Sp} (h : ∀ p ∈ P, ¬ i < p.1) : hi i P = [] := List.filter_eq_nil_iff.2 fun p hp => by simpa using h p hp
/-- The three parts of a sorted list. -/
theorem cut {i : Nat} {P : Sp} (s : Srt P) : P = lo i P ++ hi i P ∧ at_ i P = 0 ∧ (∀ p ∈ P, p.1 ≠ i) ∨ ∃ b, P = lo i P ++ (i, b) :: hi i P ∧ at_ i P = b ∧ (i, b) ∈ P := by
  induction P with
  | nil => left; exact ⟨rfl, rfl, fun _ h => by cases h⟩
  | cons p P ih =>
    obtain ⟨h1, h2⟩ := List.pairwise_cons.1 s
    obtain ⟨j, c⟩ := p
    have h1 : ∀ q ∈ P, j < q.1 := h1
    rcases Nat.lt_trichotomy j i with h | h | h
    · have e1 : lo i ((j, c) :: P) = (j, c) :: lo i P := by simp [lo, h]
      have e2 : hi i ((j, c) :: P) = hi i P := by simp [hi, show ¬ i < j by omega]
      have e3 : at_ i ((j, c) :: P) = at_ i P := by simp [at_, show ¬ j = i by omega]
      rcases ih h2 with ⟨a, b, d⟩ | ⟨b, a, d, e⟩
      · left
        refine ⟨by rw [e1, e2, List.cons_append, ← a], by rw [e3]; exact b, fun q hq => ?_⟩
        rcases List.mem_cons.1 hq with rfl | hq
        · show j ≠ i; omega
        · exact d q hq
      · right
        exact ⟨b, by rw [e1, e2, List.cons_append, ← a], by rw [e3]; exact d, List.mem_cons_of_mem _ e⟩
    · subst h
      right
      have e1 : lo j ((j, c) :: P) = [] := lo_none fun p hp => by
        rcases List.mem_cons.1 hp with rfl | hp
        · exact Nat.lt_irrefl _
        · have := h1 p hp; omega
      have e2 : hi j ((j, c) :: P) = P := by
        rw [show hi j ((j, c) :: P) = hi j P by simp [hi]]
        exact hi_all h1
      exact ⟨c, by rw [e1, e2]; rfl, by simp [at_], List.mem_cons_self ..⟩
    · left
      have hp : ∀ q ∈ (j, c) :: P, i < q.1 := fun q hq => by
        rcases List.mem_cons.1 hq with rfl | hq
        · exact h
        · have := h1 q hq; omega
      refine ⟨by rw [lo_none fun q hq => by have := hp q hq; omega, hi_all hp]; rfl, ?_, fun q hq => by have := hp q hq; omega⟩
      unfold at_
      rw [List.find?_eq_none.2 fun q hq => by have := hp q hq; simp; omega]; rfl
theorem setP_good {i m : Nat} {P : Sp} (h : Good P) (hm : 0 < m) (hm2 : m < 18446744073709551616) (hi' : i < 18014398509481984) : Good (setP i m P) := by
  have hat : at_ i P < 18446744073709551616 := by
    rcases cut (i := i) h.s with ⟨_, e, _⟩ | ⟨b, _, e, hm⟩
    · rw [e]; decide
    · rw [e]; exact (h.o _ hm).2.1
  refine ⟨List.pairwise_append.2 ⟨h.s.sublist List.filter_sublist, List.pairwise_cons.2 ⟨fun p hp => (mem_hi.1 hp).2, h.s.sublist List.filter_sublist⟩, fun a ha b hb => ?_⟩, fun p hp => ?_⟩
  · have h1 := (mem_lo.1 ha).2
    rcases List.mem_cons.1 hb with rfl | hb
    · exact h1
    · have := (mem_hi.1 hb).2; omega
  · rcases List.mem_append.1 hp with hp | hp
    · exact h.o p (mem_lo.1 hp).1
    · rcases List.mem_cons.1 hp with rfl | hp
      · exact ⟨by rw [Nat.or_comm]; exact or_pos hm, or_lt hat hm2, hi'⟩
      · exact h.o p (mem_hi.1 hp).1
theorem setP_len {i m : Nat} {P : Sp} (h : Srt P) : (setP i m P).length ≤ P.length + 1 := by
  have : (lo i P).length + (hi i P).length ≤ P.length := by
    rcases cut (i := i) h with ⟨e, _⟩ | ⟨b, e, _⟩
    · have := congrArg List.length e; rw [List.length_append] at this; omega
    · have := congrArg List.length e; rw [List.length_append, List.length_cons] at this; omega
  unfold setP; simp; omega

/-! ## The bits as numbers -/
def bitsOf (b : Nat) : List Nat := (List.range 64).filter fun i => b.testBit i
def nums (P : Sp) : List Nat := P.flatMap fun p => (bitsOf p.2).map fun i => i + p.1 * 64
theorem cnt_range (n : Nat) (f : Nat → Bool) : ((List.range n).filter f).length = cnt n f := by
  induction n with
  | zero => rfl
  | succ n ih =>
    rw [List.range_succ, List.filter_append, List.length_append, ih]
    simp only [cnt]
    cases h : f n <;> simp [h]
theorem nums_len (P : Sp) : (nums P).length = tot P := by
  unfold nums tot
  induction P with
  | nil => rfl
  | cons p P ih =>
    rw [List.flatMap_cons, List.length_append, ih, List.length_map, List.map_cons, List.sum_cons]
    congr 1
    exact cnt_range 64 _
theorem pop_pos {b : Nat} (h : 0 < b) (h2 : b < 18446744073709551616) : 0 < pop b := by
  obtain ⟨i, hi⟩ := Nat.exists_testBit_of_ne_zero (Nat.ne_of_gt h)
  have hlt : i < 64 := by
    rcases Nat.lt_or_ge i 64 with h' | h'
    · exact h'
    · have : b.testBit i = false := Nat.testBit_lt_two_pow (Nat.lt_of_lt_of_le (by omega : b < 2 ^ 64) (Nat.pow_le_pow_right (by decide) h'))
      rw [this] at hi; cases hi
  have : i ∈ bitsOf b := by simp [bitsOf, hlt, hi]
  have := List.length_pos_of_mem this
  unfold bitsOf at this
  rw [cnt_range] at this; exact this
theorem pop_le (b : Nat) : pop b ≤ 64 := cnt_le _ _
theorem tot_le (P : Sp) : tot P ≤ P.length * 64 := by
  induction P with
  | nil => exact Nat.le_refl _
  | cons p P ih => rw [tot_cons]; have := pop_le p.2; simp; omega
theorem tot_pos {P : Sp} (h : Good P) (h0 : P ≠ []) : 0 < tot P := by
  cases P with
  | nil => exact absurd rfl h0
  | cons p P => rw [tot_cons]; have := pop_pos h.head.1 h.head.2.1; omega
end Go.Proofs.Ytooejhmelodiaaa.E
