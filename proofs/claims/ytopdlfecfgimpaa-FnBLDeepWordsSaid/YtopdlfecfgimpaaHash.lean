/-
  What the filter's hash functions yield depends on the bytes alone. Printed by this session's own program hash.py.
-/
import Derived.Test.YtopdlfecfgimpaaFnsG
import Derived.Test.YtopdlfecfgimpaaBV2
namespace Go.Proofs.Ytopdlfecfgimpaa.E
open Go
set_option linter.unusedSimpArgs false
set_option linter.unusedVariables false
set_option maxRecDepth 100000

/-- The bytes b are read from p on. -/
def TB (w : World) (p : Option Addr) (l : Nat) (b : Nat → Int) : Prop := l = 0 ∨ ∃ a, p = some a ∧ a.block < w.heap.size ∧ ∀ i, i < l → w.cell? (a.add i) = some (.int .u8 (b i))
theorem TB.frS {S : Nat → Prop} {w w' : World} {p : Option Addr} {l : Nat} {b : Nat → Int} (h : TB w p l b) (f : Fr S w w') (hS : 0 < l → ∀ x, bl p x → ¬ S x) : TB w' p l b := by
  refine h.imp id ?_
  rintro ⟨a, rfl, hb, hc⟩
  exact ⟨a, rfl, Nat.lt_of_lt_of_le hb f.size, fun i hi => by rw [f.cell (by rw [add_block]; exact hb) (by rw [add_block]; exact hS (by omega) _ ⟨_, rfl, rfl⟩)]; exact hc i hi⟩
theorem TB.fr0 {w w' : World} {p : Option Addr} {l : Nat} {b : Nat → Int} (h : TB w p l b) (f : Fr (fun _ => False) w w') : TB w' p l b := h.frS f fun _ _ _ h => h
theorem TB.at {w : World} {p : Option Addr} {l : Nat} {b : Nat → Int} (h : TB w p l b) (hl : 0 < l) : ∃ a, p = some a ∧ ∀ i, i < l → w.cell? (a.add i) = some (.int .u8 (b i)) := by
  rcases h with h | ⟨a, h1, _, h2⟩
  · omega
  · exact ⟨a, h1, h2⟩
theorem add_add (a : Addr) (i j : Nat) : (a.add i).add j = a.add (i + j) := by
  unfold Addr.add; cases a.spot <;> by_cases h1 : i = 0 <;> by_cases h2 : j = 0 <;> simp [h1, h2, Nat.add_assoc]
theorem bl_sliceA {p : Option Addr} {o c x : Nat} (h : bl (sliceA p o c 1) x) : bl p x := by
  obtain ⟨a, h1, h2⟩ := h
  unfold sliceA at h1
  split at h1
  · exact ⟨a, h1, h2⟩
  · cases p with
    | none => cases h1
    | some q => cases h1; exact ⟨q, rfl, by rw [← h2, add_block]⟩
theorem TB.sub {w : World} {p : Option Addr} {l c o m : Nat} {b : Nat → Int} (h : TB w p l b) (hom : o + m ≤ l) (hl : l ≤ c) : TB w (sliceA p o c 1) m (fun j => b (o + j)) := by
  rcases Nat.eq_zero_or_pos m with h0 | h0
  · exact .inl h0
  · rcases h with h | ⟨a, rfl, hb, hc⟩
    · omega
    · refine .inr ⟨a.add o, ?_, by rw [add_block]; exact hb, fun i hi => ?_⟩
      · unfold sliceA; rw [if_neg (by omega)]; simp
      · rw [add_add]; exact hc _ (by omega)
def rotN (x k : Int) : Int := orI .u64 (shlI .u64 x (andI .u64 (IntKind.wrap .u64 k) 63).toNat) (shrI .u64 x (subI .u64 64 (andI .u64 (IntKind.wrap .u64 k) 63)).toNat)
theorem F122_spec {x r : Int} {k : Value → W} {w : World} (h1 : 0 ≤ andI .u64 (IntKind.wrap .u64 r) 63) (h2 : 0 ≤ subI .u64 64 (andI .u64 (IntKind.wrap .u64 r) 63)) (hk : k (.int .u64 (rotN x r)) w) : F122 k x r w := ⟨h1, h2, hk⟩
theorem F123_ex (k_1 : Int) : ∃ e, ∀ k : Value → W, compF Go.Proofs.Try.prog Go.Proofs.Try.f123 [] (Go.Proofs.Try.f123.body.getD .skip) [.int .u64 k_1] k = k (.int .u64 e) := ⟨_, fun _ => rfl⟩
noncomputable def fmixN (x : Int) : Int := (F123_ex x).choose
noncomputable def F123 (k : Value → W) (k_1 : Int) : W := k (.int .u64 (fmixN k_1))
theorem F123_eq (k : Value → W) (k_1 : Int) : compF Go.Proofs.Try.prog Go.Proofs.Try.f123 [] (Go.Proofs.Try.f123.body.getD .skip) [.int .u64 k_1] k = F123 k k_1 := (F123_ex k_1).choose_spec k
theorem F123_calls {k_1 : Int} {w : World} {R : Ending → World → Prop} (h : F123 (fun v w => R (.returned v) w) k_1 w) : Calls Go.Proofs.Try.prog 123 #[.int .u64 k_1] w R :=
  calls_of_compF noNum follows [] (f := 123) (fn := Go.Proofs.Try.f123) (body := Go.Proofs.Try.f123.body.getD .skip) (args := [.int .u64 k_1]) rfl rfl (Nat.le_of_ble_eq_true rfl) ((congrFun (F123_eq _ k_1) w).mpr h)
theorem F123_call {k_1 : Int} {w : World} {g : Fn W (RTy.leaves (.s (.one (.int .u64))))} (h : F123 (fun v => Back (.s (.one (.int .u64))) g (.returned v)) k_1 w) : CallT Go.Proofs.Try.prog 123 [.int .u64 k_1] (.s (.one (.int .u64))) g w := F123_calls h
theorem F123_spec {x : Int} {k : Value → W} {w : World} (hk : k (.int .u64 (fmixN x)) w) : F123 k x w := hk

/-- Two numbers that depend on the bytes alone. -/
def D2 (l : Nat) (b : Nat → Int) (X : (Value → W) → Option Addr → Nat → W) : Prop :=
  ∃ r s : Int, ∀ k w p c, TB w p l b → (∀ w', Fr (fun _ => False) w w' → k (.tuple #[.int .u64 r, .int .u64 s]) w') → X k p c w
theorem D2.spec {l : Nat} {b : Nat → Int} {X : (Value → W) → Option Addr → Nat → W} (h : D2 l b X) {k : Value → W} {w : World} {p : Option Addr} {c : Nat} (hb : TB w p l b)
    (hk : ∀ w', Fr (fun _ => False) w w' → k (.tuple #[.int .u64 h.choose, .int .u64 h.choose_spec.choose]) w') : X k p c w := h.choose_spec.choose_spec k w p c hb hk
theorem D2.bif {l : Nat} {b : Nat → Int} {t : Bool} {X Y : (Value → W) → Option Addr → Nat → W} (h1 : t = true → D2 l b X) (h2 : t = false → D2 l b Y) : D2 l b (fun k p c => BIf t (X k p c) (Y k p c)) := by
  cases t with
  | true => exact h1 rfl
  | false => exact h2 rfl
theorem D2.bind {α : Type} {l : Nat} {b : Nat → Int} {t : α} {X : α → (Value → W) → Option Addr → Nat → W} (h : D2 l b (X t)) : D2 l b (fun k p c => Bind t fun y => X y k p c) := h
theorem D2.of {l : Nat} {b : Nat → Int} {X Y : (Value → W) → Option Addr → Nat → W} (h : D2 l b X) (e : ∀ k p c w, X k p c w → Y k p c w) : D2 l b Y := by
  obtain ⟨r, s, h⟩ := h
  exact ⟨r, s, fun k w p c hb hk => e k p c w (h k w p c hb hk)⟩
theorem rot31 {x : Int} {k : Value → W} {w : World} (hk : k (.int .u64 (rotN x 31)) w) : F122 k x 31 w := F122_spec (by decide +kernel) (by decide +kernel) hk
theorem rot27 {x : Int} {k : Value → W} {w : World} (hk : k (.int .u64 (rotN x 27)) w) : F122 k x 27 w := F122_spec (by decide +kernel) (by decide +kernel) hk
theorem rot33 {x : Int} {k : Value → W} {w : World} (hk : k (.int .u64 (rotN x 33)) w) : F122 k x 33 w := F122_spec (by decide +kernel) (by decide +kernel) hk

theorem J16_d (l : Nat) (b : Nat → Int) (len h1 h2 : Int) : D2 l b (fun k p c => F118_J16 k len h1 h2) := by
  apply Exists.intro; apply Exists.intro; intro k w p c hb hk
  unfold F118_J16
  refine bind_intro (bind_intro (bind_intro ?_))
  refine F123_call (F123_spec (back_int ?_))
  refine F123_call (F123_spec (back_int ?_))
  exact hk w (Fr.refl _ _)

theorem J15_d {l : Nat} (b : Nat → Int) (len : Int) (hl : 0 < l) (h1 h2 k1 : Int) : D2 l b (fun k p c => F118_J15 k len p l c h1 h2 k1) := by
  apply Exists.intro; apply Exists.intro; intro k w p c hb hk
  unfold F118_J15
  obtain ⟨a, rfl, hc⟩ := hb.at (by omega)
  refine ⟨⟨by decide, by omega⟩, LoadT_int.2 ⟨_, hc 0 (by omega), bind_intro ?_⟩⟩
  refine bind_intro (F122_call (rot31 (back_int ?_)))
  refine bind_intro ?_
  exact (J16_d l b len _ _).spec (c := c) hb hk

theorem J14_d {l : Nat} (b : Nat → Int) (len : Int) (hl : 1 < l) (h1 h2 k1 : Int) : D2 l b (fun k p c => F118_J14 k len p l c h1 h2 k1) := by
  apply Exists.intro; apply Exists.intro; intro k w p c hb hk
  unfold F118_J14
  obtain ⟨a, rfl, hc⟩ := hb.at (by omega)
  refine ⟨⟨by decide, by omega⟩, LoadT_int.2 ⟨_, hc 1 (by omega), bind_intro ?_⟩⟩
  exact (J15_d b len (by omega) _ _ _).spec (c := c) hb hk

theorem J13_d {l : Nat} (b : Nat → Int) (len : Int) (hl : 2 < l) (h1 h2 k1 : Int) : D2 l b (fun k p c => F118_J13 k len p l c h1 h2 k1) := by
  apply Exists.intro; apply Exists.intro; intro k w p c hb hk
  unfold F118_J13
  obtain ⟨a, rfl, hc⟩ := hb.at (by omega)
  refine ⟨⟨by decide, by omega⟩, LoadT_int.2 ⟨_, hc 2 (by omega), bind_intro ?_⟩⟩
  exact (J14_d b len (by omega) _ _ _).spec (c := c) hb hk

theorem J12_d {l : Nat} (b : Nat → Int) (len : Int) (hl : 3 < l) (h1 h2 k1 : Int) : D2 l b (fun k p c => F118_J12 k len p l c h1 h2 k1) := by
  apply Exists.intro; apply Exists.intro; intro k w p c hb hk
  unfold F118_J12
  obtain ⟨a, rfl, hc⟩ := hb.at (by omega)
  refine ⟨⟨by decide, by omega⟩, LoadT_int.2 ⟨_, hc 3 (by omega), bind_intro ?_⟩⟩
  exact (J13_d b len (by omega) _ _ _).spec (c := c) hb hk

theorem J11_d {l : Nat} (b : Nat → Int) (len : Int) (hl : 4 < l) (h1 h2 k1 : Int) : D2 l b (fun k p c => F118_J11 k len p l c h1 h2 k1) := by
  apply Exists.intro; apply Exists.intro; intro k w p c hb hk
  unfold F118_J11
  obtain ⟨a, rfl, hc⟩ := hb.at (by omega)
  refine ⟨⟨by decide, by omega⟩, LoadT_int.2 ⟨_, hc 4 (by omega), bind_intro ?_⟩⟩
  exact (J12_d b len (by omega) _ _ _).spec (c := c) hb hk

theorem J10_d {l : Nat} (b : Nat → Int) (len : Int) (hl : 5 < l) (h1 h2 k1 : Int) : D2 l b (fun k p c => F118_J10 k len p l c h1 h2 k1) := by
  apply Exists.intro; apply Exists.intro; intro k w p c hb hk
  unfold F118_J10
  obtain ⟨a, rfl, hc⟩ := hb.at (by omega)
  refine ⟨⟨by decide, by omega⟩, LoadT_int.2 ⟨_, hc 5 (by omega), bind_intro ?_⟩⟩
  exact (J11_d b len (by omega) _ _ _).spec (c := c) hb hk

theorem J9_d {l : Nat} (b : Nat → Int) (len : Int) (hl : 6 < l) (h1 h2 k1 : Int) : D2 l b (fun k p c => F118_J9 k len p l c h1 h2 k1) := by
  apply Exists.intro; apply Exists.intro; intro k w p c hb hk
  unfold F118_J9
  obtain ⟨a, rfl, hc⟩ := hb.at (by omega)
  refine ⟨⟨by decide, by omega⟩, LoadT_int.2 ⟨_, hc 6 (by omega), bind_intro ?_⟩⟩
  exact (J10_d b len (by omega) _ _ _).spec (c := c) hb hk

theorem J8_d {l : Nat} (b : Nat → Int) (len : Int) (hl : 7 < l) (h1 h2 k1 : Int) : D2 l b (fun k p c => F118_J8 k len p l c h1 h2 k1) := by
  apply Exists.intro; apply Exists.intro; intro k w p c hb hk
  unfold F118_J8
  obtain ⟨a, rfl, hc⟩ := hb.at (by omega)
  refine ⟨⟨by decide, by omega⟩, LoadT_int.2 ⟨_, hc 7 (by omega), bind_intro ?_⟩⟩
  exact (J9_d b len (by omega) _ _ _).spec (c := c) hb hk

theorem J7_d {l : Nat} (b : Nat → Int) (len : Int) (hl : 8 < l) (h1 h2 k1 k2 : Int) : D2 l b (fun k p c => F118_J7 k len p l c h1 h2 k1 k2) := by
  apply Exists.intro; apply Exists.intro; intro k w p c hb hk
  unfold F118_J7
  obtain ⟨a, rfl, hc⟩ := hb.at (by omega)
  refine ⟨⟨by decide, by omega⟩, LoadT_int.2 ⟨_, hc 8 (by omega), bind_intro ?_⟩⟩
  refine bind_intro (F122_call (rot33 (back_int ?_)))
  refine bind_intro ?_
  exact (J8_d b len (by omega) _ _ _).spec (c := c) hb hk

theorem J6_d {l : Nat} (b : Nat → Int) (len : Int) (hl : 9 < l) (h1 h2 k1 k2 : Int) : D2 l b (fun k p c => F118_J6 k len p l c h1 h2 k1 k2) := by
  apply Exists.intro; apply Exists.intro; intro k w p c hb hk
  unfold F118_J6
  obtain ⟨a, rfl, hc⟩ := hb.at (by omega)
  refine ⟨⟨by decide, by omega⟩, LoadT_int.2 ⟨_, hc 9 (by omega), bind_intro ?_⟩⟩
  exact (J7_d b len (by omega) _ _ _ _).spec (c := c) hb hk

theorem J5_d {l : Nat} (b : Nat → Int) (len : Int) (hl : 10 < l) (h1 h2 k1 k2 : Int) : D2 l b (fun k p c => F118_J5 k len p l c h1 h2 k1 k2) := by
  apply Exists.intro; apply Exists.intro; intro k w p c hb hk
  unfold F118_J5
  obtain ⟨a, rfl, hc⟩ := hb.at (by omega)
  refine ⟨⟨by decide, by omega⟩, LoadT_int.2 ⟨_, hc 10 (by omega), bind_intro ?_⟩⟩
  exact (J6_d b len (by omega) _ _ _ _).spec (c := c) hb hk

theorem J4_d {l : Nat} (b : Nat → Int) (len : Int) (hl : 11 < l) (h1 h2 k1 k2 : Int) : D2 l b (fun k p c => F118_J4 k len p l c h1 h2 k1 k2) := by
  apply Exists.intro; apply Exists.intro; intro k w p c hb hk
  unfold F118_J4
  obtain ⟨a, rfl, hc⟩ := hb.at (by omega)
  refine ⟨⟨by decide, by omega⟩, LoadT_int.2 ⟨_, hc 11 (by omega), bind_intro ?_⟩⟩
  exact (J5_d b len (by omega) _ _ _ _).spec (c := c) hb hk

theorem J3_d {l : Nat} (b : Nat → Int) (len : Int) (hl : 12 < l) (h1 h2 k1 k2 : Int) : D2 l b (fun k p c => F118_J3 k len p l c h1 h2 k1 k2) := by
  apply Exists.intro; apply Exists.intro; intro k w p c hb hk
  unfold F118_J3
  obtain ⟨a, rfl, hc⟩ := hb.at (by omega)
  refine ⟨⟨by decide, by omega⟩, LoadT_int.2 ⟨_, hc 12 (by omega), bind_intro ?_⟩⟩
  exact (J4_d b len (by omega) _ _ _ _).spec (c := c) hb hk

theorem J2_d {l : Nat} (b : Nat → Int) (len : Int) (hl : 13 < l) (h1 h2 k1 k2 : Int) : D2 l b (fun k p c => F118_J2 k len p l c h1 h2 k1 k2) := by
  apply Exists.intro; apply Exists.intro; intro k w p c hb hk
  unfold F118_J2
  obtain ⟨a, rfl, hc⟩ := hb.at (by omega)
  refine ⟨⟨by decide, by omega⟩, LoadT_int.2 ⟨_, hc 13 (by omega), bind_intro ?_⟩⟩
  exact (J3_d b len (by omega) _ _ _ _).spec (c := c) hb hk

theorem tail_len {l : Nat} (h : l < 16) : andI .i64 (l : Int) 15 = (l : Int) := by
  have := andI_i64_nat (x := l) (y := 15) (by omega) (by decide)
  rw [show ((15 : Nat) : Int) = 15 from rfl] at this
  rw [this, show (15 : Nat) = 2 ^ 4 - 1 from rfl, Nat.and_two_pow_sub_one_eq_mod, Nat.mod_eq_of_lt (by omega)]
theorem is_len {l n : Nat} (h : ((l : Int) == (n : Int)) = true) : l = n := by
  have : (l : Int) = (n : Int) := by simpa using h
  omega
theorem J1_d {l : Nat} (b : Nat → Int) (len : Int) (hl : l < 16) (h1 h2 k1 k2 : Int) : D2 l b (fun k p c => F118_J1 k len p l c h1 h2 k1 k2) := by
  unfold F118_J1
  rw [tail_len hl]
  refine D2.bind (D2.bif (fun hy => ?_) (fun _ => ?_))
  · have hy := is_len (n := 15) hy
    apply Exists.intro; apply Exists.intro; intro k w p c hb hk
    obtain ⟨a, rfl, hc⟩ := hb.at (by omega)
    refine ⟨⟨by decide, by omega⟩, LoadT_int.2 ⟨_, hc 14 (by omega), bind_intro ?_⟩⟩
    exact (J2_d b len (by omega) _ _ _ _).spec (c := c) hb hk
  refine D2.bind (D2.bif (fun hy => ?_) (fun _ => ?_))
  · have hy := is_len (n := 14) hy
    exact J2_d b len (by omega) _ _ _ _
  refine D2.bind (D2.bif (fun hy => ?_) (fun _ => ?_))
  · have hy := is_len (n := 13) hy
    exact J3_d b len (by omega) _ _ _ _
  refine D2.bind (D2.bif (fun hy => ?_) (fun _ => ?_))
  · have hy := is_len (n := 12) hy
    exact J4_d b len (by omega) _ _ _ _
  refine D2.bind (D2.bif (fun hy => ?_) (fun _ => ?_))
  · have hy := is_len (n := 11) hy
    exact J5_d b len (by omega) _ _ _ _
  refine D2.bind (D2.bif (fun hy => ?_) (fun _ => ?_))
  · have hy := is_len (n := 10) hy
    exact J6_d b len (by omega) _ _ _ _
  refine D2.bind (D2.bif (fun hy => ?_) (fun _ => ?_))
  · have hy := is_len (n := 9) hy
    exact J7_d b len (by omega) _ _ _ _
  refine D2.bind (D2.bif (fun hy => ?_) (fun _ => ?_))
  · have hy := is_len (n := 8) hy
    exact J8_d b len (by omega) _ _ _
  refine D2.bind (D2.bif (fun hy => ?_) (fun _ => ?_))
  · have hy := is_len (n := 7) hy
    exact J9_d b len (by omega) _ _ _
  refine D2.bind (D2.bif (fun hy => ?_) (fun _ => ?_))
  · have hy := is_len (n := 6) hy
    exact J10_d b len (by omega) _ _ _
  refine D2.bind (D2.bif (fun hy => ?_) (fun _ => ?_))
  · have hy := is_len (n := 5) hy
    exact J11_d b len (by omega) _ _ _
  refine D2.bind (D2.bif (fun hy => ?_) (fun _ => ?_))
  · have hy := is_len (n := 4) hy
    exact J12_d b len (by omega) _ _ _
  refine D2.bind (D2.bif (fun hy => ?_) (fun _ => ?_))
  · have hy := is_len (n := 3) hy
    exact J13_d b len (by omega) _ _ _
  refine D2.bind (D2.bif (fun hy => ?_) (fun _ => ?_))
  · have hy := is_len (n := 2) hy
    exact J14_d b len (by omega) _ _ _
  refine D2.bind (D2.bif (fun hy => ?_) (fun _ => ?_))
  · have hy := is_len (n := 1) hy
    exact J15_d b len (by omega) _ _ _
  exact J16_d l b len _ _

/-- sum128. -/
theorem F118_ex (l : Nat) (b : Nat → Int) (len : Int) (pad : Bool) (h1 h2 : Int) (hl : l < 16) :
    ∃ r : Int × Int, ∀ k w p c d, Blk w d 116 [.int .u64 h1, .int .u64 h2] → TB w p l b → (∀ w', Fr (fun _ => False) w w' → k (.tuple #[.int .u64 r.1, .int .u64 r.2]) w') → F118 k (some ⟨d, 0, none⟩) pad len p l c w := by
  have key : D2 l b (fun k p c =>
     BIf pad (
       Bind ((andI .i64 (addI .i64 ((l : Nat) : Int) 1) 15) == 15) fun y9 =>
       BIf y9 (
        Bind (xorI .u64 0 281474976710656 : Int) fun k2_10 =>
        F118_J1 k len p l c h1 h2 0 k2_10) (
        Bind ((andI .i64 (addI .i64 ((l : Nat) : Int) 1) 15) == 14) fun y168 =>
        BIf y168 (
         Bind (xorI .u64 0 1099511627776 : Int) fun k2_169 =>
         F118_J1 k len p l c h1 h2 0 k2_169) (
         Bind ((andI .i64 (addI .i64 ((l : Nat) : Int) 1) 15) == 13) fun y170 =>
         BIf y170 (
          F118_J1 k len p l c h1 h2 0 (xorI .u64 0 4294967296)) (
          Bind ((andI .i64 (addI .i64 ((l : Nat) : Int) 1) 15) == 12) fun y171 =>
          BIf y171 (
           F118_J1 k len p l c h1 h2 0 (xorI .u64 0 16777216)) (
           Bind ((andI .i64 (addI .i64 ((l : Nat) : Int) 1) 15) == 11) fun y172 =>
           BIf y172 (
            F118_J1 k len p l c h1 h2 0 (xorI .u64 0 65536)) (
            Bind ((andI .i64 (addI .i64 ((l : Nat) : Int) 1) 15) == 10) fun y173 =>
            BIf y173 (
             F118_J1 k len p l c h1 h2 0 (xorI .u64 0 256)) (
             Bind ((andI .i64 (addI .i64 ((l : Nat) : Int) 1) 15) == 9) fun y174 =>
             BIf y174 (
              Bind (mulI .u64 (xorI .u64 0 1) 5545529020109919103 : Int) fun k2_175 =>
              CallT Go.Proofs.Try.prog 122 [.int .u64 k2_175, .int .i64 33] (.s (.one (.int .u64))) fun x176 =>
              Bind (mulI .u64 x176 9782798678568883157 : Int) fun k2_177 =>
              F118_J1 k len p l c h1 (xorI .u64 h2 k2_177) 0 k2_177) (
              Bind ((andI .i64 (addI .i64 ((l : Nat) : Int) 1) 15) == 8) fun y178 =>
              BIf y178 (
               Bind (xorI .u64 0 72057594037927936 : Int) fun k1_179 =>
               F118_J1 k len p l c h1 h2 k1_179 0) (
               Bind ((andI .i64 (addI .i64 ((l : Nat) : Int) 1) 15) == 7) fun y180 =>
               BIf y180 (
                Bind (xorI .u64 0 281474976710656 : Int) fun k1_181 =>
                F118_J1 k len p l c h1 h2 k1_181 0) (
                Bind ((andI .i64 (addI .i64 ((l : Nat) : Int) 1) 15) == 6) fun y182 =>
                BIf y182 (
                 Bind (xorI .u64 0 1099511627776 : Int) fun k1_183 =>
                 F118_J1 k len p l c h1 h2 k1_183 0) (
                 Bind ((andI .i64 (addI .i64 ((l : Nat) : Int) 1) 15) == 5) fun y184 =>
                 BIf y184 (
                  F118_J1 k len p l c h1 h2 (xorI .u64 0 4294967296) 0) (
                  Bind ((andI .i64 (addI .i64 ((l : Nat) : Int) 1) 15) == 4) fun y185 =>
                  BIf y185 (
                   F118_J1 k len p l c h1 h2 (xorI .u64 0 16777216) 0) (
                   Bind ((andI .i64 (addI .i64 ((l : Nat) : Int) 1) 15) == 3) fun y186 =>
                   BIf y186 (
                    F118_J1 k len p l c h1 h2 (xorI .u64 0 65536) 0) (
                    Bind ((andI .i64 (addI .i64 ((l : Nat) : Int) 1) 15) == 2) fun y187 =>
                    BIf y187 (
                     F118_J1 k len p l c h1 h2 (xorI .u64 0 256) 0) (
                     Bind ((andI .i64 (addI .i64 ((l : Nat) : Int) 1) 15) == 1) fun y188 =>
                     BIf y188 (
                      Bind (mulI .u64 (xorI .u64 0 1) 9782798678568883157 : Int) fun k1_189 =>
                      CallT Go.Proofs.Try.prog 122 [.int .u64 k1_189, .int .i64 31] (.s (.one (.int .u64))) fun x190 =>
                      Bind (mulI .u64 x190 5545529020109919103 : Int) fun k1_191 =>
                      F118_J1 k len p l c (xorI .u64 h1 k1_191) h2 k1_191 0) (
                      F118_J1 k len p l c h1 h2 0 0)))))))))))))))) (
       F118_J1 k len p l c h1 h2 0 0)) := by
    refine D2.bif (fun hp => ?_) (fun hp => J1_d b len hl _ _ _ _)
    refine D2.bind (D2.bif (fun hy => ?_) (fun _ => ?_))
    · exact J1_d b len hl _ _ _ _
    refine D2.bind (D2.bif (fun hy => ?_) (fun _ => ?_))
    · exact J1_d b len hl _ _ _ _
    refine D2.bind (D2.bif (fun hy => ?_) (fun _ => ?_))
    · exact J1_d b len hl _ _ _ _
    refine D2.bind (D2.bif (fun hy => ?_) (fun _ => ?_))
    · exact J1_d b len hl _ _ _ _
    refine D2.bind (D2.bif (fun hy => ?_) (fun _ => ?_))
    · exact J1_d b len hl _ _ _ _
    refine D2.bind (D2.bif (fun hy => ?_) (fun _ => ?_))
    · exact J1_d b len hl _ _ _ _
    refine D2.bind (D2.bif (fun hy => ?_) (fun _ => ?_))
    · apply Exists.intro; apply Exists.intro; intro k w p c hb hk
      refine bind_intro (F122_call (rot33 (back_int (bind_intro ?_))))
      exact (J1_d b len hl _ _ _ _).spec (c := c) hb hk
    refine D2.bind (D2.bif (fun hy => ?_) (fun _ => ?_))
    · exact J1_d b len hl _ _ _ _
    refine D2.bind (D2.bif (fun hy => ?_) (fun _ => ?_))
    · exact J1_d b len hl _ _ _ _
    refine D2.bind (D2.bif (fun hy => ?_) (fun _ => ?_))
    · exact J1_d b len hl _ _ _ _
    refine D2.bind (D2.bif (fun hy => ?_) (fun _ => ?_))
    · exact J1_d b len hl _ _ _ _
    refine D2.bind (D2.bif (fun hy => ?_) (fun _ => ?_))
    · exact J1_d b len hl _ _ _ _
    refine D2.bind (D2.bif (fun hy => ?_) (fun _ => ?_))
    · exact J1_d b len hl _ _ _ _
    refine D2.bind (D2.bif (fun hy => ?_) (fun _ => ?_))
    · exact J1_d b len hl _ _ _ _
    refine D2.bind (D2.bif (fun hy => ?_) (fun _ => ?_))
    · apply Exists.intro; apply Exists.intro; intro k w p c hb hk
      refine bind_intro (F122_call (rot31 (back_int (bind_intro ?_))))
      exact (J1_d b len hl _ _ _ _).spec (c := c) hb hk
    exact J1_d b len hl _ _ _ _
  obtain ⟨r, s, hr⟩ := key
  refine ⟨(r, s), fun k w p c d hd hb hk => ?_⟩
  unfold F118
  refine drw_intro fun w1 f1 z1 => ?_
  replace hd := hd.fr f1 id
  simp only [NN_mk, add_mk, Nat.zero_add]
  refine load_int hd rfl ?_
  refine load_int hd rfl ?_
  exact hr k w1 p c (hb.fr0 f1) fun w' f' => hk w' (f1.trans f' fun _ h => h.elim)

theorem F119_ex (b : Nat → Int) : ∃ r : Int, ∀ k w p l c, 8 ≤ l → TB w p l b → (∀ w', Fr (fun _ => False) w w' → k (.int .u64 r) w') → F119 k p l c w := by
  apply Exists.intro; intro k w p l c hl hb hk
  unfold F119
  obtain ⟨a, rfl, hc⟩ := hb.at (by omega)
  refine new_intro fun n w1 e1 bn f1 z1 => ?_
  replace hb := hb.fr0 f1
  obtain ⟨_, h0, hc⟩ := hb.at (by omega)
  cases h0
  refine ⟨⟨by decide, by omega⟩, LoadT_int.2 ⟨_, hc 7 (by omega), ?_⟩⟩
  refine drw_intro fun w2 f2 z2 => ?_
  replace hb := hb.fr0 f2
  obtain ⟨_, h0, hc⟩ := hb.at (by omega)
  cases h0
  refine ⟨⟨by decide, by omega⟩, LoadT_int.2 ⟨_, hc 0 (by omega), ?_⟩⟩
  refine ⟨⟨by decide, by omega⟩, LoadT_int.2 ⟨_, hc 1 (by omega), ?_⟩⟩
  refine ⟨⟨by decide, by omega⟩, LoadT_int.2 ⟨_, hc 2 (by omega), ?_⟩⟩
  refine ⟨⟨by decide, by omega⟩, LoadT_int.2 ⟨_, hc 3 (by omega), ?_⟩⟩
  refine ⟨⟨by decide, by omega⟩, LoadT_int.2 ⟨_, hc 4 (by omega), ?_⟩⟩
  refine ⟨⟨by decide, by omega⟩, LoadT_int.2 ⟨_, hc 5 (by omega), ?_⟩⟩
  refine ⟨⟨by decide, by omega⟩, LoadT_int.2 ⟨_, hc 6 (by omega), ?_⟩⟩
  refine ⟨⟨by decide, by omega⟩, LoadT_int.2 ⟨_, hc 7 (by omega), ?_⟩⟩
  exact hk _ (f1.trans f2 fun _ h => h.elim)
noncomputable def leQ (b : Nat → Int) : Int := (F119_ex b).choose
theorem F119_spec {b : Nat → Int} {k : Value → W} {w : World} {p : Option Addr} {l c : Nat} (hl : 8 ≤ l) (hb : TB w p l b) (hk : ∀ w', Fr (fun _ => False) w w' → k (.int .u64 (leQ b)) w') : F119 k p l c w := (F119_ex b).choose_spec k w p l c hl hb hk

theorem F120_ex (b : Nat → Int) : ∃ r : Int, ∀ k w p l c, 4 ≤ l → TB w p l b → (∀ w', Fr (fun _ => False) w w' → k (.int .u32 r) w') → F120 k p l c w := by
  apply Exists.intro; intro k w p l c hl hb hk
  unfold F120
  obtain ⟨a, rfl, hc⟩ := hb.at (by omega)
  refine new_intro fun n w1 e1 bn f1 z1 => ?_
  replace hb := hb.fr0 f1
  obtain ⟨_, h0, hc⟩ := hb.at (by omega)
  cases h0
  refine ⟨⟨by decide, by omega⟩, LoadT_int.2 ⟨_, hc 3 (by omega), ?_⟩⟩
  refine drw_intro fun w2 f2 z2 => ?_
  replace hb := hb.fr0 f2
  obtain ⟨_, h0, hc⟩ := hb.at (by omega)
  cases h0
  refine ⟨⟨by decide, by omega⟩, LoadT_int.2 ⟨_, hc 0 (by omega), ?_⟩⟩
  refine ⟨⟨by decide, by omega⟩, LoadT_int.2 ⟨_, hc 1 (by omega), ?_⟩⟩
  refine ⟨⟨by decide, by omega⟩, LoadT_int.2 ⟨_, hc 2 (by omega), ?_⟩⟩
  refine ⟨⟨by decide, by omega⟩, LoadT_int.2 ⟨_, hc 3 (by omega), ?_⟩⟩
  exact hk _ (f1.trans f2 fun _ h => h.elim)
noncomputable def leD (b : Nat → Int) : Int := (F120_ex b).choose
theorem F120_spec {b : Nat → Int} {k : Value → W} {w : World} {p : Option Addr} {l c : Nat} (hl : 4 ≤ l) (hb : TB w p l b) (hk : ∀ w', Fr (fun _ => False) w w' → k (.int .u32 (leD b)) w') : F120 k p l c w := (F120_ex b).choose_spec k w p l c hl hb hk

theorem F121_ex2 (h : Int × Int) (k1 k2 : Int) : ∃ r s : Int, ∀ k w d, Blk w d 116 [.int .u64 h.1, .int .u64 h.2] → (∀ w', Blk w' d 116 [.int .u64 r, .int .u64 s] → Fr (fun x => x = d) w w' → k (.tuple #[]) w') → F121 k (some ⟨d, 0, none⟩) k1 k2 w := by
  apply Exists.intro; apply Exists.intro; intro k w d hd hk
  unfold F121
  refine drw_intro fun w1 f1 z1 => ?_
  replace hd := hd.fr f1 id
  simp only [NN_mk, add_mk, Nat.zero_add]
  refine load_int hd rfl ?_
  refine load_int hd rfl ?_
  refine bind_intro (F122_call (rot31 (back_int (bind_intro ?_))))
  refine F122_call (rot27 (back_int (bind_intro (bind_intro ?_))))
  refine F122_call (rot33 (back_int (bind_intro ?_)))
  refine F122_call (rot31 (back_int (bind_intro ?_)))
  refine store_intro hd (by simp) rfl fun w2 hd f2 z2 => ?_
  refine store_intro hd (by simp) rfl fun w3 hd f3 z3 => ?_
  exact hk _ hd ((Fr.mono f1 (S' := fun x => x = d) fun _ h => h.elim).trans (f2.trans f3 fun _ h => .inl h) fun _ h => .inl h)
theorem F121_ex (h : Int × Int) (k1 k2 : Int) : ∃ r : Int × Int, ∀ k w d, Blk w d 116 [.int .u64 h.1, .int .u64 h.2] → (∀ w', Blk w' d 116 [.int .u64 r.1, .int .u64 r.2] → Fr (fun x => x = d) w w' → k (.tuple #[]) w') → F121 k (some ⟨d, 0, none⟩) k1 k2 w := by
  obtain ⟨r, s, h⟩ := F121_ex2 h k1 k2
  exact ⟨(r, s), h⟩
noncomputable def mix (h : Int × Int) (k1 k2 : Int) : Int × Int := (F121_ex h k1 k2).choose
theorem F121_spec {h : Int × Int} {k1 k2 : Int} {k : Value → W} {w : World} {d : Nat} (hd : Blk w d 116 [.int .u64 h.1, .int .u64 h.2])
    (hk : ∀ w', Blk w' d 116 [.int .u64 (mix h k1 k2).1, .int .u64 (mix h k1 k2).2] → Fr (fun x => x = d) w w' → k (.tuple #[]) w') : F121 k (some ⟨d, 0, none⟩) k1 k2 w := (F121_ex h k1 k2).choose_spec k w d hd hk
/-- What the blocks of 16 bytes come to. -/
noncomputable def blocks (b : Nat → Int) : Nat → Int × Int
  | 0 => (0, 0)
  | i + 1 => mix (blocks b i) (leQ fun j => b (16 * i + (0 + j))) (leQ fun j => b (16 * i + (8 + j)))
theorem F117_spec {b : Nat → Int} {k : Value → W} {w : World} {p : Option Addr} {l c d : Nat} (hd : Blk w d 116 [.int .u64 0, .int .u64 0]) (hb : TB w p l b) (hl : l ≤ c) (hl2 : l < 2147483648) (hpd : 0 < l → ∀ x, bl p x → x ≠ d)
    (hk : ∀ w', Blk w' d 116 [.int .u64 (blocks b (l / 16)).1, .int .u64 (blocks b (l / 16)).2] → Fr (fun x => x = d) w w' → k (.tuple #[]) w') : F117 k (some ⟨d, 0, none⟩) p l c w := by
  unfold F117
  refine ⟨by decide, bind_intro ?_⟩
  have e : quoI .i64 (l : Int) 16 = ((l / 16 : Nat) : Int) := by rw [quoI_i64 (by omega) (by omega) (by omega)]; omega
  rw [e]
  refine F117_L1_rule (fun d' p' l' c' n' i' w' => d' = some ⟨d, 0, none⟩ ∧ p' = p ∧ l' = l ∧ c' = c ∧ n' = ((l / 16 : Nat) : Int) ∧ ∃ i : Nat, i' = i ∧ i ≤ l / 16 ∧ Blk w' d 116 [.int .u64 (blocks b i).1, .int .u64 (blocks b i).2] ∧ Fr (fun x => x = d) w w')
    (fun _ _ _ _ _ i' _ => l / 16 - i'.toNat) ?_ ⟨rfl, rfl, rfl, rfl, rfl, 0, rfl, Nat.zero_le _, hd, Fr.refl _ _⟩
  clear hd
  rintro d' p' l' c' n' i' w' ⟨rfl, rfl, rfl, rfl, rfl, i, rfl, hi, hd, fr⟩
  unfold F117_L1
  refine BIf_intro (fun hc => ?_) (fun hc => ?_)
  · have hc := of_decide_eq_true hc
    have e0 : addI .i64 (i : Int) 1 = ((i + 1 : Nat) : Int) := by rw [addI_i64 (by omega) (by omega)]; omega
    have e1 : mulI .i64 ((i + 1 : Nat) : Int) 16 = ((16 * (i + 1) : Nat) : Int) := by rw [mulI_i64 (by omega) (by omega)]; omega
    have e2 : mulI .i64 (i : Int) 16 = ((16 * i : Nat) : Int) := by rw [mulI_i64 (by omega) (by omega)]; omega
    rw [e0, e1, e2]
    simp only [Int.toNat_natCast]
    refine ⟨⟨by omega, by omega⟩, ⟨by omega, by omega⟩, ?_⟩
    refine drw_intro fun w1 f1 z1 => ?_
    have hb1 : TB w1 p' l' b := (hb.frS fr fun h0 x hx e => hpd h0 x hx e).fr0 f1
    refine ⟨⟨by omega, by omega⟩, ⟨by omega, by omega⟩, ?_⟩
    have hs := hb1.sub (o := 16 * i) (m := 16) (c := c') (by omega) (by omega)
    have e3 : 16 * (i + 1) - 16 * i = 16 := by omega
    rw [e3]
    refine F119_call (F119_spec (by omega) (hs.sub (o := 0) (m := 8) (by omega) (by omega)) fun w2 f2 => back_int ?_)
    refine F119_call (F119_spec (by omega) ((hs.fr0 f2).sub (o := 8) (m := 8) (by omega) (by omega)) fun w3 f3 => back_int ?_)
    have f123 := (f1.trans f2 fun _ h => h.elim).trans f3 fun _ h => h.elim
    refine F121_call (F121_spec (hd.fr f123 id) fun w4 hd4 f4 => back0 ?_)
    refine ⟨⟨(by trivial), (by trivial), (by trivial), (by trivial), (by trivial), i + 1, rfl, by omega, hd4, (fr.trans f123 fun _ h => h.elim).trans f4 fun _ h => .inl h⟩, by omega⟩
  · have hc := of_decide_eq_false hc
    have : i = l' / 16 := by omega
    subst this
    exact hk _ hd fr
/-- sum256. -/
theorem F116_ex (l : Nat) (b : Nat → Int) (hl2 : l < 2147483648) : ∃ r : (Int × Int) × (Int × Int), ∀ k w p c d v1 v2, Blk w d 116 [v1, v2] → TB w p l b → l ≤ c → (0 < l → ∀ x, bl p x → x ≠ d) →
    (∀ w', Fr (fun x => x = d) w w' → k (.tuple #[.int .u64 r.1.1, .int .u64 r.1.2, .int .u64 r.2.1, .int .u64 r.2.2]) w') → F116 k (some ⟨d, 0, none⟩) p l c w := by
  have hm : l % 16 < 16 := Nat.mod_lt _ (by decide)
  have e0 : IntKind.wrap .u64 (l : Int) = (l : Int) := wrap_u64 (by omega) (by omega)
  have e1 : remI (l : Int) 16 = ((l % 16 : Nat) : Int) := by rw [remI_eq (by omega)]; omega
  have e2 : subI .u64 (l : Int) ((l % 16 : Nat) : Int) = ((16 * (l / 16) : Nat) : Int) := by rw [subI_u64 (by omega) (by omega)]; omega
  have e3 : addI .u64 ((l % 16 : Nat) : Int) 1 = ((l % 16 + 1 : Nat) : Int) := addI_nat (y := 1) (by omega)
  have e4 : l - 16 * (l / 16) = l % 16 := by omega
  have e5 : addI .u64 (l : Int) 1 = ((l + 1 : Nat) : Int) := addI_nat (y := 1) (by omega)
  have start : ∀ (r1 : Int × Int) k w p c d v1 v2, (∀ k w p c d, Blk w d 116 [.int .u64 (blocks b (l / 16)).1, .int .u64 (blocks b (l / 16)).2] → TB w p (l % 16) (fun j => b (16 * (l / 16) + j)) → (∀ w', Fr (fun _ => False) w w' → k (.tuple #[.int .u64 r1.1, .int .u64 r1.2]) w') → F118 k (some ⟨d, 0, none⟩) false l p (l % 16) c w) →
      Blk w d 116 [v1, v2] → TB w p l b → l ≤ c → (0 < l → ∀ x, bl p x → x ≠ d) →
      (∀ w', Blk w' d 116 [.int .u64 (blocks b (l / 16)).1, .int .u64 (blocks b (l / 16)).2] → TB w' p l b → TB w' (sliceA p (16 * (l / 16)) c 1) (l % 16) (fun j => b (16 * (l / 16) + j)) → Fr (fun x => x = d) w w' → (BIf (((l % 16 + 1 : Nat) : Int) == 16) (
        
          Drw <|
          Req (0 ≤ (8 : Int) ∧ (8 : Int) ≤ ((c - (16 * (l / 16)) : Nat) : Int)) <|
          CallT Go.Proofs.Try.prog 119 [.agg #[], .slice (sliceA (sliceA p (16 * (l / 16)) c 1) 0 (c - (16 * (l / 16))) 1) (8 - 0) ((c - (16 * (l / 16))) - 0)] (.s (.one (.int .u64))) fun x8 =>
          Drw <|
          Req (0 ≤ (12 : Int) ∧ (12 : Int) ≤ ((c - (16 * (l / 16)) : Nat) : Int)) <|
          Req (0 ≤ (8 : Int) ∧ (8 : Int) ≤ ((12 : Nat) : Int)) <|
          CallT Go.Proofs.Try.prog 120 [.agg #[], .slice (sliceA (sliceA p (16 * (l / 16)) c 1) 8 (c - (16 * (l / 16))) 1) (12 - 8) ((c - (16 * (l / 16))) - 8)] (.s (.one (.int .u32))) fun x9 =>
          Drw <|
          NN (sliceA p (16 * (l / 16)) c 1) fun a10 =>
          Req (0 ≤ (12 : Int) ∧ (12 : Int) < ((l % 16 : Nat) : Int)) <|
          LoadT (.int .u8) (a10.add ((12 : Int).toNat)) fun x11 =>
          NN (sliceA p (16 * (l / 16)) c 1) fun a12 =>
          Req (0 ≤ (13 : Int) ∧ (13 : Int) < ((l % 16 : Nat) : Int)) <|
          LoadT (.int .u8) (a12.add ((13 : Int).toNat)) fun x13 =>
          NN (sliceA p (16 * (l / 16)) c 1) fun a14 =>
          Req (0 ≤ (14 : Int) ∧ (14 : Int) < ((l % 16 : Nat) : Int)) <|
          LoadT (.int .u8) (a14.add ((14 : Int).toNat)) fun x15 =>
          Bind (orI .u64 (orI .u64 (orI .u64 (IntKind.wrap .u64 x9) (shlI .u64 (IntKind.wrap .u64 x11) 32)) (shlI .u64 (IntKind.wrap .u64 x13) 40)) (shlI .u64 (IntKind.wrap .u64 x15) 48) : Int) fun word2_16 =>
          Bind (orI .u64 word2_16 72057594037927936 : Int) fun word2_17 =>
          CallT Go.Proofs.Try.prog 121 [.pointer (some ⟨d, 0, none⟩), .int .u64 x8, .int .u64 word2_17] (.tup []) <|
          Req (0 ≤ (l : Int) ∧ (l : Int) ≤ ((l : Nat) : Int)) <|
          CallT Go.Proofs.Try.prog 118 [.pointer (some ⟨d, 0, none⟩), .bool false, .int .u64 ((l + 1 : Nat) : Int), .slice (sliceA p l c 1) (l - l) (c - l)] (.tup [(.one (.int .u64)), (.one (.int .u64))]) fun x18 x19 =>
          F116_J1 k r1.1 r1.2 x18 x19) (
        
          CallT Go.Proofs.Try.prog 118 [.pointer (some ⟨d, 0, none⟩), .bool true, .int .u64 ((l + 1 : Nat) : Int), .slice (sliceA p (16 * (l / 16)) c 1) (l % 16) (c - (16 * (l / 16)))] (.tup [(.one (.int .u64)), (.one (.int .u64))]) fun x24 x25 =>
          F116_J1 k r1.1 r1.2 x24 x25))
        w') → F116 k (some ⟨d, 0, none⟩) p l c w := by
    intro r1 k w p c d v1 v2 h118 hd hb hlc hpd hk
    unfold F116
    simp only [NN_mk, add_mk, Nat.zero_add]
    refine store_intro hd (by simp) rfl fun w1 hd f1 z1 => ?_
    refine store_intro hd (by simp) rfl fun w2 hd f2 z2 => ?_
    have f12 := f1.trans f2 fun _ h => .inl h
    have hb2 : TB w2 p l b := hb.frS f12 fun h0 x hx e => hpd h0 x hx e
    refine F117_call (F117_spec hd hb2 hlc hl2 hpd fun w3 hd3 f3 => back0 (bind_intro ?_))
    have hb3 : TB w3 p l b := hb2.frS f3 fun h0 x hx e => hpd h0 x hx e
    simp only [e0, e1, e2, e3, e5, Int.toNat_natCast, e4]
    refine ⟨by decide, ⟨by omega, by omega⟩, ?_⟩
    have hs3 := hb3.sub (o := 16 * (l / 16)) (m := l % 16) (c := c) (by omega) hlc
    refine F118_call (h118 _ _ _ _ _ hd3 hs3 fun w4 f4 => ⟨(r1.1, r1.2, ()), rfl, ?_⟩)
    exact hk w4 (hd3.fr f4 id) (hb3.fr0 f4) (hs3.fr0 f4) ((f12.trans f3 fun _ h => .inl h).trans f4 fun _ h => h.elim)
  obtain ⟨r1, hr1⟩ := F118_ex (l % 16) (fun j => b (16 * (l / 16) + j)) l false (blocks b (l / 16)).1 (blocks b (l / 16)).2 hm
  by_cases h15 : l % 16 = 15
  · obtain ⟨r2, hr2⟩ := F118_ex 0 (fun j => b (l + j)) ((l + 1 : Nat) : Int) false (mix (blocks b (l / 16)) (leQ fun j => b (16 * (l / 16) + (0 + j))) (orI .u64 (orI .u64 (orI .u64 (orI .u64 (IntKind.wrap .u64 (leD fun j => b (16 * (l / 16) + (8 + j)))) (shlI .u64 (IntKind.wrap .u64 (b (16 * (l / 16) + 12))) 32)) (shlI .u64 (IntKind.wrap .u64 (b (16 * (l / 16) + 13))) 40)) (shlI .u64 (IntKind.wrap .u64 (b (16 * (l / 16) + 14))) 48)) 72057594037927936)).1 (mix (blocks b (l / 16)) (leQ fun j => b (16 * (l / 16) + (0 + j))) (orI .u64 (orI .u64 (orI .u64 (orI .u64 (IntKind.wrap .u64 (leD fun j => b (16 * (l / 16) + (8 + j)))) (shlI .u64 (IntKind.wrap .u64 (b (16 * (l / 16) + 12))) 32)) (shlI .u64 (IntKind.wrap .u64 (b (16 * (l / 16) + 13))) 40)) (shlI .u64 (IntKind.wrap .u64 (b (16 * (l / 16) + 14))) 48)) 72057594037927936)).2 (by decide)
    refine ⟨(r1, r2), fun k w p c d v1 v2 hd hb hlc hpd hk => start r1 k w p c d v1 v2 hr1 hd hb hlc hpd fun w1 hd hb hs fr => ?_⟩
    have et : (((l % 16 + 1 : Nat) : Int) == 16) = true := by rw [h15]; rfl
    rw [et, BIf_true]
    refine drw_intro fun w2 f2 z2 => ?_
    replace hd := hd.fr f2 id
    replace hb := hb.fr0 f2
    replace hs := hs.fr0 f2
    replace fr := fr.trans f2 fun _ h => h.elim
    refine ⟨⟨by decide, by omega⟩, ?_⟩
    refine F119_call (F119_spec (by omega) (hs.sub (o := 0) (m := 8) (by omega) (by omega)) fun w3 f3 => back_int ?_)
    refine drw_intro fun w4 f4 z4 => ?_
    have f34 := f3.trans f4 fun _ h => h.elim
    replace hd := hd.fr f34 id
    replace hb := hb.fr0 f34
    replace hs := hs.fr0 f34
    replace fr := fr.trans f34 fun _ h => h.elim
    refine ⟨⟨by decide, by omega⟩, ⟨by decide, by omega⟩, ?_⟩
    refine F120_call (F120_spec (by omega) (hs.sub (o := 8) (m := 4) (by omega) (by omega)) fun w5 f5 => back_int ?_)
    refine drw_intro fun w6 f6 z6 => ?_
    have f56 := f5.trans f6 fun _ h => h.elim
    replace hd := hd.fr f56 id
    replace hb := hb.fr0 f56
    replace hs := hs.fr0 f56
    replace fr := fr.trans f56 fun _ h => h.elim
    obtain ⟨a, ha, hc⟩ := hs.at (by omega)
    rw [ha]
    refine ⟨⟨by decide, by omega⟩, LoadT_int.2 ⟨_, hc 12 (by omega), ?_⟩⟩
    refine ⟨⟨by decide, by omega⟩, LoadT_int.2 ⟨_, hc 13 (by omega), ?_⟩⟩
    refine ⟨⟨by decide, by omega⟩, LoadT_int.2 ⟨_, hc 14 (by omega), ?_⟩⟩
    refine bind_intro (bind_intro ?_)
    refine F121_call (F121_spec hd fun w7 hd7 f7 => back0 ?_)
    refine ⟨⟨by omega, by omega⟩, ?_⟩
    have hb7 : TB w7 p l b := hb.frS f7 fun h0 x hx e => hpd h0 x hx e
    have hs7 := hb7.sub (o := l) (m := 0) (c := c) (by omega) hlc
    have e6 : l - l = 0 := Nat.sub_self l
    rw [e6]
    refine F118_call (hr2 _ _ _ _ _ hd7 hs7 fun w8 f8 => ⟨(r2.1, r2.2, ()), rfl, ?_⟩)
    exact hk w8 ((fr.trans f7 fun _ h => .inl h).trans f8 fun _ h => h.elim)
  · obtain ⟨r2, hr2⟩ := F118_ex (l % 16) (fun j => b (16 * (l / 16) + j)) ((l + 1 : Nat) : Int) true (blocks b (l / 16)).1 (blocks b (l / 16)).2 hm
    refine ⟨(r1, r2), fun k w p c d v1 v2 hd hb hlc hpd hk => start r1 k w p c d v1 v2 hr1 hd hb hlc hpd fun w1 hd hb hs fr => ?_⟩
    have et : (((l % 16 + 1 : Nat) : Int) == 16) = false := by
      rw [beq_eq_false_iff_ne]; omega
    rw [et, BIf_false]
    refine F118_call (hr2 _ _ _ _ _ hd hs fun w8 f8 => ⟨(r2.1, r2.2, ()), rfl, ?_⟩)
    exact hk w8 (fr.trans f8 fun _ h => h.elim)
/-- baseHashes. -/
theorem F101_ex (l : Nat) (b : Nat → Int) (hl2 : l < 2147483648) : ∃ r : (Int × Int) × (Int × Int), ∀ k w p c, TB w p l b → l ≤ c →
    (∀ w', Fr (fun _ => False) w w' → k (.agg #[.int .u64 r.1.1, .int .u64 r.1.2, .int .u64 r.2.1, .int .u64 r.2.2]) w') → F101 k p l c w := by
  obtain ⟨r, hr⟩ := F116_ex l b hl2
  refine ⟨r, fun k w p c hb hlc hk => ?_⟩
  unfold F101
  have hlt : ∀ x, l ≠ 0 → bl p x → x < w.heap.size := by
    intro x h0 ⟨a, h1, h2⟩
    rcases hb with h | ⟨a', h, hlt, _⟩
    · omega
    · rw [h] at h1; cases h1; rw [← h2]; exact hlt
  refine new_intro fun n2 w1 e1 b2 f1 z1 => ?_
  refine new_intro fun n3 w2 e2 b3 f2 z2 => ?_
  have f12 := f1.trans f2 fun _ h => h.elim
  replace b2 := b2.fr f2 id
  have hb2 := hb.fr0 f12
  refine F116_call (hr _ w2 p c n3 _ _ b3 hb2 hlc (fun h0 x hx e => by have := hlt x (by omega) hx; omega) fun w3 f3 => ⟨(r.1.1, r.1.2, r.2.1, r.2.2, ()), rfl, ?_⟩)
  replace b2 := b2.fr f3 (show ¬ n2 = n3 by omega)
  refine store_intro b2 (by simp) rfl fun w4 b2 f4 z4 => ?_
  refine store_intro b2 (by simp) rfl fun w5 b2 f5 z5 => ?_
  refine store_intro b2 (by simp) rfl fun w6 b2 f6 z6 => ?_
  refine store_intro b2 (by simp) rfl fun w7 b2 f7 z7 => ?_
  refine load_int b2 rfl ?_
  refine load_int b2 rfl ?_
  refine load_int b2 rfl ?_
  refine load_int b2 rfl ?_
  refine hk _ (((((f12.trans f3 ?_).trans f4 ?_).trans f5 ?_).trans f6 ?_).trans f7 ?_)
  all_goals (rintro x rfl; exact .inr (by omega))
end Go.Proofs.Ytopdlfecfgimpaa.E
