/-
  Several bit arrays: a step.
-/
import Derived.Test.YtooejhmelodiaaaBaU
namespace Go.Proofs.Ytooejhmelodiaaa.E
open Go
set_option linter.unusedSimpArgs false
set_option linter.unusedVariables false
set_option maxRecDepth 100000
set_option maxHeartbeats 8000000

structure BS where
  op : Int
  on : Nat
  by_ : Nat
  k : Nat
structure BA where
  yes : Bool
  n : Nat
  nums : List Nat
def pg (Ps : List Sp) (i : Nat) : Sp := Ps.getD i []
def stepP (Ps : List Sp) (s : BS) : List Sp :=
  if s.op = 2 then Ps ++ [[]] else if s.op = 3 then Ps.set s.on (setP (s.k / 64) (2 ^ (s.k % 64)) (pg Ps s.on)) else if s.op = 11 then Ps ++ [orM (pg Ps s.on) (pg Ps s.by_)] else if s.op = 12 then Ps ++ [andM (pg Ps s.on) (pg Ps s.by_)]
  else if s.op = 13 then Ps ++ [nandM (pg Ps s.on) (pg Ps s.by_)] else Ps
def stepB (Ps : List Sp) (s : BS) : BA := if s.op = 3 then ⟨true, 0, []⟩ else if s.op = 10 then ⟨false, tot (pg Ps s.on), []⟩ else if s.op = 14 then ⟨false, 0, nums (pg Ps s.on)⟩ else ⟨false, 0, []⟩
def OkS (c : Bool) (Ps : List Sp) (s : BS) : Prop :=
  s.op = 2 ∨ (s.op = 3 ∧ c = true ∧ s.on < Ps.length ∧ s.k < 1152921504606846976) ∨ ((s.op = 11 ∨ s.op = 12 ∨ s.op = 13) ∧ s.on < Ps.length ∧ s.by_ < Ps.length) ∨ ((s.op = 14 ∨ s.op = 10) ∧ s.on < Ps.length)
def NuK : Rk Nat := ⟨24, 1, fun _ g x => g 0 = some (uv x), [], fun h hP => by rw [← h 0 (by decide)]; exact hP, fun _ _ h => h⟩
theorem pg_get {Ps : List Sp} {i : Nat} (h : i < Ps.length) : Ps[i]? = some (pg Ps i) := by
  unfold pg; rw [List.getD_eq_getElem?_getD, List.getElem?_eq_getElem h]; rfl
section
variable {k : Value → W} {w : World}
theorem Own.nu {p : Option Addr} {l c : Nat} {X : List Nat} (h : Own w 24 p l c (us X)) : Sl NuK w p X := by
  rcases h.2 with ⟨_, h0, _⟩ | ⟨q, rest, rfl, hB, _, _⟩
  · left
    have := h.1
    rw [us_len] at this
    exact List.length_eq_zero_iff.1 (by omega)
  · refine .inr ⟨q, 0, _, rfl, hB, fun i x hx => ?_⟩
    show (us X ++ rest)[0 + i * 1 + 0]? = some (uv x)
    have hi := (List.getElem?_eq_some_iff.1 hx).1
    rw [List.getElem?_append_left (by simp; omega)]
    show (X.map uv)[0 + i * 1 + 0]? = some (uv x)
    rw [show 0 + i * 1 + 0 = i by omega, List.getElem?_map, hx]; rfl
theorem end12 {d : Nat} {y f : Bool} {n : Int} {p : Option Addr} {l c : Nat} (hB : Blk w d 35 [.bool y, .int .u64 n, .slice p l c, .bool f]) (hk : ∀ w', Fr (fun b => b = d) w w' → k (.agg #[.bool y, .int .u64 n, .slice p l c, .bool f]) w') :
    (LoadT .bool ((⟨d, 0, none⟩ : Addr).add 0) fun b9 =>
      LoadT (.int .u64) ((⟨d, 0, none⟩ : Addr).add 1) fun x10 =>
      LoadT .slice ((⟨d, 0, none⟩ : Addr).add 2) fun s11p s11l s11c =>
      LoadT .bool ((⟨d, 0, none⟩ : Addr).add 3) fun b12 =>
      Store1 ((⟨d, 0, none⟩ : Addr).add 0) (.bool b9) <|
      Store1 ((⟨d, 0, none⟩ : Addr).add 1) (.int .u64 x10) <|
      Store1 ((⟨d, 0, none⟩ : Addr).add 2) (.slice s11p s11l s11c) <|
      Store1 ((⟨d, 0, none⟩ : Addr).add 3) (.bool b12) <|
      LoadT .bool ((⟨d, 0, none⟩ : Addr).add 0) fun b13 =>
      LoadT (.int .u64) ((⟨d, 0, none⟩ : Addr).add 1) fun x14 =>
      LoadT .slice ((⟨d, 0, none⟩ : Addr).add 2) fun s15p s15l s15c =>
      LoadT .bool ((⟨d, 0, none⟩ : Addr).add 3) fun b16 =>
      k (.agg #[.bool b13, .int .u64 x14, .slice s15p s15l s15c, .bool b16])) w := by
  simp only [add_mk, Nat.zero_add]
  refine load_bool (i := 0) hB rfl (load_int (i := 1) hB rfl (load_slice (i := 2) hB rfl (load_bool (i := 3) hB rfl ?_)))
  refine store_intro (i := 0) hB (by simp) rfl fun w1 b1 f1 z1 => store_intro (i := 1) b1 (by simp) rfl fun w2 b2 f2 z2 => store_intro (i := 2) b2 (by simp) rfl fun w3 b3 f3 z3 => store_intro (i := 3) b3 (by simp) rfl fun w4 b4 f4 z4 => ?_
  refine load_bool (i := 0) b4 rfl (load_int (i := 1) b4 rfl (load_slice (i := 2) b4 rfl (load_bool (i := 3) b4 rfl ?_)))
  exact hk w4 (((f1.trans f2 fun _ h => .inl h).trans f3 fun _ h => .inl h).trans f4 fun _ h => .inl h)
theorem m_set (p : Option Addr) (x : Int) (w : World) : (callMethod (.iface 73 (.pointer p)) "SetBit" [.int .u64 x].toArray).run Try.prog w = .ok (.enter 94 #[.pointer p, .int .u64 x]) w := by kernel_rfl
theorem m_cnt (p : Option Addr) (w : World) : (callMethod (.iface 73 (.pointer p)) "Count" [].toArray).run Try.prog w = .ok (.enter 85 #[.pointer p]) w := by kernel_rfl
theorem m_num (p : Option Addr) (w : World) : (callMethod (.iface 73 (.pointer p)) "ToNums" [].toArray).run Try.prog w = .ok (.enter 95 #[.pointer p]) w := by kernel_rfl
theorem m_or (p q : Option Addr) (w : World) : (callMethod (.iface 73 (.pointer p)) "Or" [.iface 73 (.pointer q)].toArray).run Try.prog w = .ok (.enter 92 #[.pointer p, .iface 73 (.pointer q)]) w := by kernel_rfl
theorem m_and (p q : Option Addr) (w : World) : (callMethod (.iface 73 (.pointer p)) "And" [.iface 73 (.pointer q)].toArray).run Try.prog w = .ok (.enter 82 #[.pointer p, .iface 73 (.pointer q)]) w := by kernel_rfl
theorem m_nand (p q : Option Addr) (w : World) : (callMethod (.iface 73 (.pointer p)) "Nand" [.iface 73 (.pointer q)].toArray).run Try.prog w = .ok (.enter 91 #[.pointer p, .iface 73 (.pointer q)]) w := by kernel_rfl
theorem ta73 (p : Option Addr) (w : World) : (Instr.typeAssert (.iface 73 (.pointer p)) 48 73 true).run Try.prog w = .ok (.tuple #[.pointer p, .bool true]) w := by kernel_rfl
theorem ta_pb {P : Program} {s : Sem Value} {p : Option Addr} {b : Bool} {f : Option Addr → Bool → W} (h : s.run P w = .ok (.tuple #[.pointer p, .bool b]) w) (hk : f p b w) : RawS P s (.tup [(.one .ptr), (.one .bool)]) f w := ⟨(p, b, ()), h, hk⟩
/-- a.two: a further array is made of two. -/
theorem F18_spec {ab on by_ d m : Nat} {Ps : List Sp} {G F : Nat → Prop} {o : Int} {M : Sp → Sp → Sp} (hM : (o = 11 ∧ M = orM) ∨ (o = 12 ∧ M = andM) ∨ (o = 13 ∧ M = nandM)) (h : AR w ab Ps G) {n : Nat} {P : Sp} (hn : SA w n P F) (hby : by_ < Ps.length)
    (gP : Good P) (lP : P.length < 1000) (gQ : Good (pg Ps by_)) (lQ : (pg Ps by_).length < 1000) (hl : Ps.length < 1000)
    (hk : ∀ w' G', AR w' ab (Ps ++ [M P (pg Ps by_)]) G' → (∃ S, Fr S w w' ∧ Tys S w [44, 48] ∧ ∀ b, S b → G b) → (∀ b, G' b → G b ∨ w.heap.size ≤ b) → k (.tuple #[]) w') :
    F18 k (some ⟨ab, 0, none⟩) o ((on : Nat) : Int) ((by_ : Nat) : Int) ((m : Nat) : Int) 0 false (rf n) (some ⟨d, 0, none⟩) w := by
  unfold F18
  refine new_intro fun n10 w1 e1 b1 f1 z1 => ?_
  refine load_int (i := 2) b1 rfl ?_
  have h1 := h.fr0 f1
  have hn1 := hn.fr0 f1
  refine F17_call (F17_spec h1 (pg_get hby) fun n2 F2 s2 hF2 => back_any ?_)
  rw [show rf n2 = .iface 73 (.pointer (some ⟨n2, 0, none⟩)) from rfl, IfaceNil_iface, BIf_false]
  refine load_int (i := 0) b1 rfl ?_
  have hz1 := f1.size
  have tail : ∀ (w2 : World) (n3 : Nat) (F3 : Nat → Prop), SA w2 n3 (M P (pg Ps by_)) F3 → (∀ b, F3 b → w1.heap.size ≤ b) → Fr (fun _ => False) w1 w2 → (CallT Try.prog 14 [.pointer (some ⟨ab, 0, none⟩), .iface 73 (.pointer (some ⟨n3, 0, none⟩))] (.tup []) <| k (.tuple #[])) w2 := fun w2 n3 F3 s3 hF3 f2 => by
    have h2 := h1.fr0 f2
    have f02 := f1.trans f2 fun _ h => h.elim
    refine F14_call (F14_spec h2 s3 (fun b hb hg => by have := hF3 b hb; have := h1.lt hg; omega) (by omega) fun w3 G' h3 hS hG' => back0 ?_)
    obtain ⟨S, fS, tS, bS⟩ := hS
    refine hk w3 G' h3 ⟨S, (f02.mono fun _ h => h.elim).trans fS fun b hb => .inl hb, fun b u us hb hu => tS b u us hb (hu.fr f02 id), bS⟩ fun b hb => ?_
    rcases hG' b hb with h | h | h
    · exact .inl h
    · have := hF3 b h; exact .inr (by omega)
    · have := f02.size; exact .inr (by omega)
  rcases hM with ⟨rfl, rfl⟩ | ⟨rfl, rfl⟩ | ⟨rfl, rfl⟩
  · rw [show ((11 : Int) == 7) = false from rfl, BIf_false, show ((11 : Int) == 8) = false from rfl, BIf_false, show ((11 : Int) == 11) = true from rfl, BIf_true]
    refine NextT_enter (m_or _ _ w1) (F92_calls ?_)
    unfold F92
    refine ta_pb (ta73 _ _) ?_
    rw [BIf_true]
    exact F104_call (F104_spec hn1 s2 gP gQ (by omega) (by omega) fun w2 n3 F3 s3 hF3 f2 => back_any (back_any (tail w2 n3 F3 s3 hF3 f2)))
  · rw [show ((12 : Int) == 7) = false from rfl, BIf_false, show ((12 : Int) == 8) = false from rfl, BIf_false, show ((12 : Int) == 11) = false from rfl, BIf_false, show ((12 : Int) == 12) = true from rfl, BIf_true]
    refine NextT_enter (m_and _ _ w1) (F82_calls ?_)
    unfold F82
    refine ta_pb (ta73 _ _) ?_
    rw [BIf_true]
    exact F96_call (F96_spec hn1 s2 gP gQ (by omega) (by omega) fun w2 n3 F3 s3 hF3 f2 => back_any (back_any (tail w2 n3 F3 s3 hF3 f2)))
  · rw [show ((13 : Int) == 7) = false from rfl, BIf_false, show ((13 : Int) == 8) = false from rfl, BIf_false, show ((13 : Int) == 11) = false from rfl, BIf_false, show ((13 : Int) == 12) = false from rfl, BIf_false, show ((13 : Int) == 13) = true from rfl, BIf_true]
    refine NextT_enter (m_nand _ _ w1) (F91_calls ?_)
    unfold F91
    refine ta_pb (ta73 _ _) ?_
    rw [BIf_true]
    exact F102_call (F102_spec hn1 s2 gP gQ (by omega) (by omega) fun w2 n3 F3 s3 hF3 f2 => back_any (back_any (tail w2 n3 F3 s3 hF3 f2)))
/-- A step. -/
theorem F12_spec {ab d3 d4 : Nat} {Ps : List Sp} {G : Nat → Prop} {s : BS} {c : Bool} (h : AR w ab Ps G) (h3 : Blk w d3 31 [.int .i64 s.op, .int .i64 ((s.on : Nat) : Int), .int .i64 ((s.by_ : Nat) : Int), .int .u64 ((s.k : Nat) : Int), .int .i64 0, .bool false]) (h4 : Blk w d4 35 [.bool false, .int .u64 0, .slice none 0 0, .bool false])
    (hs : OkS c Ps s) (hg : ∀ P ∈ Ps, Good P ∧ P.length < 1000) (hl : Ps.length < 1000)
    (hk : ∀ w' G' p pc, AR w' ab (stepP Ps s) G' → Fr (fun b => G b ∨ b = d4) w w' → (s.op ≠ 3 → ∃ S, Fr S w w' ∧ Tys S w [44, 48, 35] ∧ ∀ b, S b → G b ∨ b = d4) → (∀ b, G' b → G b ∨ w.heap.size ≤ b) → Sl NuK w' p (stepB Ps s).nums →
      k (.agg #[.bool (stepB Ps s).yes, .int .u64 (((stepB Ps s).n : Nat) : Int), .slice p (stepB Ps s).nums.length pc, .bool false]) w') :
    F12 k (some ⟨ab, 0, none⟩) ⟨d3, 0, none⟩ ⟨d4, 0, none⟩ w := by
  obtain ⟨o, on, by_, m⟩ := s
  have hG3 : ¬ G d3 := fun hb => by have := h.ty d3 _ _ hb h3; simp at this
  have hG4 : ¬ G d4 := fun hb => by have := h.ty d4 _ _ hb h4; simp at this
  have h34 : d3 ≠ d4 := fun e => by rw [e] at h3; exact absurd (h3.unique h4).1 (by decide)
  have gg : ∀ i, i < Ps.length → Good (pg Ps i) ∧ (pg Ps i).length < 1000 := fun i hi => hg _ (List.mem_of_getElem? (pg_get hi))
  have z4 := h4.lt
  -- where the answer's block alone turned behind frames S
  have wrapup : ∀ {S : Nat → Prop} {w2 w3 : World}, Fr S w w2 → (∀ b, S b → G b) → Fr (fun b => b = d4) w2 w3 → Fr (fun b => G b ∨ b = d4) w w3 := fun fS hS f => (fS.mono fun b hb => .inl (.inl (hS b hb))).trans f fun b hb => .inl (.inr hb)
  unfold F12
  refine load_int (i := 0) h3 rfl ?_
  rcases hs with rfl | ⟨rfl, hc, hon, hm⟩ | ⟨hop, hon, hby⟩ | ⟨hop, hon⟩
  · -- a new array
    rw [show ((2 : Int) == 1) = false from rfl, BIf_false, show ((2 : Int) == 2) = true from rfl, BIf_true]
    refine F16_call ?_
    unfold F16
    refine F20_call ?_
    unfold F20
    refine new_intro fun n1 w1 e1 b1 f1 z1 => back_ptr (back_any ?_)
    have s1 : SA w1 n1 [] (fun b => b = n1 ∨ bl none b ∨ bl none b) := ⟨none, 0, none, 0, ⟨b1, Own.nil _ _, Own.nil _ _⟩, fun _ => Iff.rfl⟩
    have hn1 : ∀ b, (b = n1 ∨ bl none b ∨ bl none b) → b = n1 := fun b hb => by
      rcases hb with e | ⟨_, e, _⟩ | ⟨_, e, _⟩
      · exact e
      · cases e
      · cases e
    refine F14_call (F14_spec (h.fr0 f1) s1 (fun b hb hb' => by have := hn1 b hb; have := h.lt hb'; omega) (by omega) fun w2 G' hA hS hG' => back0 ?_)
    obtain ⟨S, fS, tS, bS⟩ := hS
    have h42 := (h4.fr f1 id).fr fS fun hb => hG4 (bS _ hb)
    refine end12 h42 fun w3 f3 => ?_
    have f02 : Fr S w w2 := (f1.mono fun _ h => h.elim).trans fS fun b hb => .inl hb
    have hG'' : ∀ b, G' b → G b ∨ w.heap.size ≤ b := fun b hb => by
      rcases hG' b hb with h | h | h
      · exact .inl h
      · have := hn1 b h; exact .inr (by omega)
      · exact .inr (by omega)
    refine hk w3 G' none 0 (hA.fr f3 fun b hb e => ?_) (wrapup f02 bS f3) (fun _ => ⟨fun b => S b ∨ b = d4, (f02.mono fun b hb => .inl (.inl hb)).trans f3 fun b hb => .inl (.inr hb), fun b u us hb hu => ?_, fun b hb => hb.imp (bS b) id⟩) hG'' (Sl.nil _ _ _)
    · have e : b = d4 := e
      subst e
      rcases hG'' b hb with h | h
      · exact hG4 h
      · omega
    · rcases hb with hb | rfl
      · have := tS b u us hb (hu.fr f1 id)
        simp only [List.mem_cons, List.not_mem_nil, or_false] at this ⊢
        rcases this with h | h
        · exact .inl h
        · exact .inr (.inl h)
      · rw [(hu.unique h4).1]; decide
  · -- a bit
    have hon : on < Ps.length := hon
    have hm : m < 1152921504606846976 := hm
    rw [show ((3 : Int) == 1) = false from rfl, BIf_false, show ((3 : Int) == 2) = false from rfl, BIf_false]
    refine load_int (i := 1) h3 rfl ?_
    obtain ⟨n, hset, hat⟩ := set_one h (pg_get hon) (gg on hon).1 (by have := (gg on hon).2; omega) hm
    refine F17_call (hat (back_any ?_))
    rw [show rf n = .iface 73 (.pointer (some ⟨n, 0, none⟩)) from rfl, IfaceNil_iface, BIf_false]
    refine load_int (i := 0) h3 rfl ?_
    rw [show ((3 : Int) == 3) = true from rfl, BIf_true]
    refine load_int (i := 3) h3 rfl ?_
    refine NextT_enter (m_set _ _ w) (F94_calls (hset fun w1 G' hA f1 hG' => back_any ?_))
    rw [IfaceNil_nil]
    have h41 := h4.fr f1 hG4
    refine store_intro (i := 0) h41 (by simp) rfl fun w2 b2 f2 z2 => ?_
    refine end12 (y := true) b2 fun w3 f3 => ?_
    have f13 : Fr (fun b => b = d4) w1 w3 := f2.trans f3 fun _ h => .inl h
    refine hk w3 G' none 0 (hA.fr f13 fun b hb e => ?_) (wrapup f1 (fun _ h => h) f13) (fun hne => absurd rfl hne) hG' (Sl.nil _ _ _)
    have e : b = d4 := e
    subst e
    rcases hG' b hb with h | h
    · exact hG4 h
    · omega
  · -- an array made of two
    have hon : on < Ps.length := hon
    have hby : by_ < Ps.length := hby
    have hM : ∃ M : Sp → Sp → Sp, ((o = 11 ∧ M = orM) ∨ (o = 12 ∧ M = andM) ∨ (o = 13 ∧ M = nandM)) ∧ stepP Ps ⟨o, on, by_, m⟩ = Ps ++ [M (pg Ps on) (pg Ps by_)] ∧ stepB Ps ⟨o, on, by_, m⟩ = ⟨false, 0, []⟩ ∧ o ≠ 3 := by
      have hop : o = 11 ∨ o = 12 ∨ o = 13 := hop
      rcases hop with rfl | rfl | rfl
      · exact ⟨orM, .inl ⟨rfl, rfl⟩, rfl, rfl, by decide⟩
      · exact ⟨andM, .inr (.inl ⟨rfl, rfl⟩), rfl, rfl, by decide⟩
      · exact ⟨nandM, .inr (.inr ⟨rfl, rfl⟩), rfl, rfl, by decide⟩
    obtain ⟨M, hM, eP, eB, hne⟩ := hM
    have hor : o = 11 ∨ o = 12 ∨ o = 13 := hop
    have ne : ∀ x : Int, x ≠ 11 → x ≠ 12 → x ≠ 13 → ((o == x) = false) := fun x h1 h2 h3 => by rw [beq_eq_false_iff_ne]; omega
    rw [show (o == 1) = false from ne 1 (by decide) (by decide) (by decide), BIf_false, show (o == 2) = false from ne 2 (by decide) (by decide) (by decide), BIf_false]
    refine load_int (i := 1) h3 rfl ?_
    refine F17_call (F17_spec (i := on) h (pg_get hon) fun n F s1 hF => back_any ?_)
    rw [show rf n = .iface 73 (.pointer (some ⟨n, 0, none⟩)) from rfl, IfaceNil_iface, BIf_false]
    refine load_int (i := 0) h3 rfl ?_
    rw [show (o == 3) = false from ne 3 (by decide) (by decide) (by decide), BIf_false, show (o == 4) = false from ne 4 (by decide) (by decide) (by decide), BIf_false, show (o == 5) = false from ne 5 (by decide) (by decide) (by decide), BIf_false, show (o == 6) = false from ne 6 (by decide) (by decide) (by decide), BIf_false, show (o == 9) = false from ne 9 (by decide) (by decide) (by decide), BIf_false, show (o == 10) = false from ne 10 (by decide) (by decide) (by decide), BIf_false,
      show (o == 14) = false from ne 14 (by decide) (by decide) (by decide), BIf_false, show (o == 15) = false from ne 15 (by decide) (by decide) (by decide), BIf_false, show (o == 16) = false from ne 16 (by decide) (by decide) (by decide), BIf_false, show (o == 17) = false from ne 17 (by decide) (by decide) (by decide), BIf_false]
    refine load_int (i := 0) h3 rfl (load_int (i := 1) h3 rfl (load_int (i := 2) h3 rfl (load_int (i := 3) h3 rfl (load_int (i := 4) h3 rfl (load_bool (i := 5) h3 rfl ?_)))))
    refine F18_call (F18_spec hM h s1 hby (gg on hon).1 (gg on hon).2 (gg by_ hby).1 (gg by_ hby).2 hl fun w2 G' hA hS hG' => back0 ?_)
    obtain ⟨S, fS, tS, bS⟩ := hS
    have h42 := h4.fr fS fun hb => hG4 (bS _ hb)
    refine end12 h42 fun w3 f3 => ?_
    rw [eP, eB] at hk
    refine hk w3 G' none 0 (hA.fr f3 fun b hb e => ?_) (wrapup fS bS f3) (fun _ => ⟨fun b => S b ∨ b = d4, (fS.mono fun b hb => .inl (.inl hb)).trans f3 fun b hb => .inl (.inr hb), fun b u us hb hu => ?_, fun b hb => hb.imp (bS b) id⟩) hG' (Sl.nil _ _ _)
    · have e : b = d4 := e
      subst e
      rcases hG' b hb with h | h
      · exact hG4 h
      · omega
    · rcases hb with hb | rfl
      · have := tS b u us hb hu
        simp only [List.mem_cons, List.not_mem_nil, or_false] at this ⊢
        rcases this with h | h
        · exact .inl h
        · exact .inr (.inl h)
      · rw [(hu.unique h4).1]; decide
  · -- what is asked
    have hon : on < Ps.length := hon
    have hop : o = 14 ∨ o = 10 := hop
    have ne : ∀ x : Int, x ≠ 14 → x ≠ 10 → ((o == x) = false) := fun x h1 h2 => by rw [beq_eq_false_iff_ne]; omega
    rw [show (o == 1) = false from ne 1 (by decide) (by decide), BIf_false, show (o == 2) = false from ne 2 (by decide) (by decide), BIf_false]
    refine load_int (i := 1) h3 rfl ?_
    refine F17_call (F17_spec (i := on) h (pg_get hon) fun n F s1 hF => back_any ?_)
    rw [show rf n = .iface 73 (.pointer (some ⟨n, 0, none⟩)) from rfl, IfaceNil_iface, BIf_false]
    refine load_int (i := 0) h3 rfl ?_
    rw [show (o == 3) = false from ne 3 (by decide) (by decide), BIf_false, show (o == 4) = false from ne 4 (by decide) (by decide), BIf_false, show (o == 5) = false from ne 5 (by decide) (by decide), BIf_false, show (o == 6) = false from ne 6 (by decide) (by decide), BIf_false, show (o == 9) = false from ne 9 (by decide) (by decide), BIf_false]
    obtain ⟨gP, lP⟩ := gg on hon
    have fd : ∀ {w2 : World}, Fr (fun b => b = d4) w w2 → Fr (fun b => G b ∨ b = d4) w w2 ∧ (∃ S, Fr S w w2 ∧ Tys S w [44, 48, 35] ∧ ∀ b, S b → G b ∨ b = d4) := fun f => ⟨f.mono fun b hb => .inl (.inr hb), fun b => b = d4, f, fun b u us hb hu => by
      have hb : b = d4 := hb
      subst hb; rw [(hu.unique h4).1]; decide, fun b hb => .inr hb⟩
    have keepA : ∀ {w2 : World}, Fr (fun b => b = d4) w w2 → AR w2 ab Ps G := fun f => h.fr f fun b hb e => hG4 (by rw [← show b = d4 from e]; exact hb)
    rcases hop with rfl | rfl
    · rw [show ((14 : Int) == 10) = false from rfl, BIf_false, show ((14 : Int) == 14) = true from rfl, BIf_true]
      refine NextT_enter (m_num _ w) (F95_calls (F95_spec s1 gP (by omega) fun w1 p c' hO hp f1 => back_slice ?_))
      refine store_intro (i := 2) (h4.fr f1 id) (by simp) rfl fun w2 b2 f2 z2 => ?_
      have b2 : Blk w2 d4 35 [.bool false, .int .u64 0, .slice p (tot (pg Ps on)) c', .bool false] := b2
      refine end12 b2 fun w3 f3 => ?_
      have f23 : Fr (fun b => b = d4) w1 w3 := f2.trans f3 fun _ h => .inl h
      have f03 : Fr (fun b => b = d4) w w3 := (f1.mono fun _ h => h.elim).trans f23 fun b hb => .inl hb
      have hO3 := hO.fr f23 fun b hb e => by have e : b = d4 := e; have := hp b hb; omega
      have := hk w3 G p c' (keepA f03) (fd f03).1 (fun _ => (fd f03).2) (fun b hb => .inl hb) hO3.nu
      rw [show (stepB Ps ⟨14, on, by_, m⟩).nums = nums (pg Ps on) from rfl, nums_len] at this
      exact this
    · rw [show ((10 : Int) == 10) = true from rfl, BIf_true]
      refine NextT_enter (m_cnt _ w) (F85_calls (F85_spec s1 gP (by omega) (back_int ?_)))
      have ht := tot_le (pg Ps on)
      rw [wrap_u64 (by omega) (by omega)]
      refine store_intro (i := 1) h4 (by simp) rfl fun w2 b2 f2 z2 => ?_
      have b2 : Blk w2 d4 35 [.bool false, .int .u64 ((tot (pg Ps on) : Nat) : Int), .slice none 0 0, .bool false] := b2
      refine end12 b2 fun w3 f3 => ?_
      have f03 : Fr (fun b => b = d4) w w3 := f2.trans f3 fun _ h => .inl h
      exact hk w3 G none 0 (keepA f03) (fd f03).1 (fun _ => (fd f03).2) (fun b hb => .inl hb) (Sl.nil _ _ _)
end
end Go.Proofs.Ytooejhmelodiaaa.E
