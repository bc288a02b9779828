/-
  The plain law of the Hilbert curve: numbers of places, and places of numbers; no program in sight.
-/
import Derived.KernelRfl
namespace Go.Proofs.Ytancdjhojdfejaa.H

/-- The bit number j of a whole number. -/
def bt (x : Int) (j : Nat) : Int := x / 2 ^ j % 2
theorem bt01 (x : Int) (j : Nat) : bt x j = 0 ∨ bt x j = 1 := by unfold bt; omega
theorem pow_pos' (j : Nat) : (0 : Int) < 2 ^ j := Int.pow_pos (by decide)
theorem bt_add (x t : Int) (j : Nat) : bt (x + 2 ^ (j + 1) * t) j = bt x j := by
  unfold bt
  have h : x + 2 ^ (j + 1) * t = x + 2 ^ j * (2 * t) := by rw [Int.pow_succ, Int.mul_assoc]
  rw [h, Int.add_mul_ediv_left _ _ (Int.ne_of_gt (pow_pos' j))]
  omega
theorem bt_lo {x : Int} {j : Nat} (h0 : 0 ≤ x) (h1 : x < 2 ^ j) : bt x j = 0 := by
  unfold bt; rw [Int.ediv_eq_zero_of_lt h0 h1]; rfl
theorem bt_hi {x : Int} {j : Nat} (h0 : 2 ^ j ≤ x) (h1 : x < 2 ^ (j + 1)) : bt x j = 1 := by
  have h : bt x j = bt (x - 2 ^ j + 2 ^ j * 1) j := by congr 1; omega
  rw [h]; unfold bt
  rw [Int.add_mul_ediv_left _ _ (Int.ne_of_gt (pow_pos' j)), Int.ediv_eq_zero_of_lt (by omega) (by rw [Int.pow_succ] at h1; omega)]; rfl

/-- The place within the quarter. -/
def rotX (j : Nat) (rx ry x y : Int) : Int := if ry = 0 then (if rx = 1 then 2 ^ j - 1 - y else y) else x
def rotY (j : Nat) (rx ry x y : Int) : Int := if ry = 0 then (if rx = 1 then 2 ^ j - 1 - x else x) else y
def quarter (rx ry : Int) : Int := if rx = 0 then ry else 3 - ry
def enc : Nat → Int → Int → Int
  | 0, _, _ => 0
  | j + 1, x, y => 4 ^ j * quarter (bt x j) (bt y j) + enc j (rotX j (bt x j) (bt y j) x y) (rotY j (bt x j) (bt y j) x y)
def dec : Nat → Int → Int × Int
  | 0, _ => (0, 0)
  | j + 1, h =>
    let rx := h / 4 ^ j / 2 % 2
    let ry := (h / 4 ^ j + rx) % 2
    (rotX j rx ry (dec j h).1 (dec j h).2 + 2 ^ j * rx, rotY j rx ry (dec j h).1 (dec j h).2 + 2 ^ j * ry)

theorem four_pos (j : Nat) : (0 : Int) < 4 ^ j := Int.pow_pos (by decide)
theorem quarter_bd {rx ry : Int} (h1 : rx = 0 ∨ rx = 1) (h2 : ry = 0 ∨ ry = 1) : 0 ≤ quarter rx ry ∧ quarter rx ry ≤ 3 := by
  unfold quarter; rcases h1 with rfl | rfl <;> rcases h2 with rfl | rfl <;> decide

theorem enc_congr : ∀ (j : Nat) (x y s t : Int), enc j (x + 2 ^ j * s) (y + 2 ^ j * t) = enc j x y
  | 0, _, _, _, _ => rfl
  | j + 1, x, y, s, t => by
    simp only [enc, bt_add]
    congr 1
    have hp : (2 : Int) ^ (j + 1) = 2 ^ j * 2 := Int.pow_succ ..
    rw [hp]
    unfold rotX rotY
    split
    · split
      · rw [show 2 ^ j - 1 - (y + 2 ^ j * 2 * t) = 2 ^ j - 1 - y + 2 ^ j * (-2 * t) by rw [Int.mul_assoc, ← Int.mul_assoc (2 ^ j) (-2) t, Int.mul_neg, Int.neg_mul, ← Int.mul_assoc]; omega,
          show 2 ^ j - 1 - (x + 2 ^ j * 2 * s) = 2 ^ j - 1 - x + 2 ^ j * (-2 * s) by rw [Int.mul_assoc, ← Int.mul_assoc (2 ^ j) (-2) s, Int.mul_neg, Int.neg_mul, ← Int.mul_assoc]; omega]
        exact enc_congr j _ _ _ _
      · rw [Int.mul_assoc, Int.mul_assoc]; exact enc_congr j _ _ _ _
    · rw [Int.mul_assoc, Int.mul_assoc]; exact enc_congr j _ _ _ _

theorem enc_bd : ∀ (j : Nat) (x y : Int), 0 ≤ enc j x y ∧ enc j x y < 4 ^ j
  | 0, _, _ => by simp [enc]
  | j + 1, x, y => by
    have ih := enc_bd j (rotX j (bt x j) (bt y j) x y) (rotY j (bt x j) (bt y j) x y)
    have hq := quarter_bd (bt01 x j) (bt01 y j)
    simp only [enc]
    have hp : (4 : Int) ^ (j + 1) = 4 ^ j * 4 := Int.pow_succ ..
    have h4 := four_pos j
    have h1 : 0 ≤ 4 ^ j * quarter (bt x j) (bt y j) := Int.mul_nonneg (by omega) hq.1
    have h2 : 4 ^ j * quarter (bt x j) (bt y j) ≤ 4 ^ j * 3 := Int.mul_le_mul_of_nonneg_left hq.2 (by omega)
    omega

theorem dec_congr : ∀ (j : Nat) (h t : Int), dec j (h + 4 ^ j * t) = dec j h
  | 0, _, _ => rfl
  | j + 1, h, t => by
    have hp : h + 4 ^ (j + 1) * t = h + 4 ^ j * (4 * t) := by rw [Int.pow_succ, Int.mul_assoc]
    have hd : (h + 4 ^ (j + 1) * t) / 4 ^ j = h / 4 ^ j + 4 * t := by rw [hp, Int.add_mul_ediv_left _ _ (Int.ne_of_gt (four_pos j))]
    have ih : dec j (h + 4 ^ (j + 1) * t) = dec j h := by rw [hp]; exact dec_congr j h (4 * t)
    have e1 : (h / 4 ^ j + 4 * t) / 2 % 2 = h / 4 ^ j / 2 % 2 := by omega
    simp only [dec, ih, hd, e1]
    have e2 : (h / 4 ^ j + 4 * t + h / 4 ^ j / 2 % 2) % 2 = (h / 4 ^ j + h / 4 ^ j / 2 % 2) % 2 := by omega
    rw [e2]

/-- One step of 'dec', the digit given. -/
theorem dec_step (j : Nat) (q e : Int) (h0 : 0 ≤ e) (h1 : e < 4 ^ j) (hq : 0 ≤ q ∧ q ≤ 3) : dec (j + 1) (4 ^ j * q + e) =
    (rotX j (q / 2) ((q + q / 2) % 2) (dec j e).1 (dec j e).2 + 2 ^ j * (q / 2), rotY j (q / 2) ((q + q / 2) % 2) (dec j e).1 (dec j e).2 + 2 ^ j * ((q + q / 2) % 2)) := by
  have hd : (4 ^ j * q + e) / 4 ^ j = q := by
    rw [Int.add_comm, Int.add_mul_ediv_left _ _ (Int.ne_of_gt (four_pos j)), Int.ediv_eq_zero_of_lt h0 h1, Int.zero_add]
  have ih : dec j (4 ^ j * q + e) = dec j e := by rw [Int.add_comm]; exact dec_congr j e q
  have e1 : q / 2 % 2 = q / 2 := by omega
  simp only [dec, ih, hd, e1]

theorem dec_enc : ∀ (j : Nat) (x y : Int), 0 ≤ x → x < 2 ^ j → 0 ≤ y → y < 2 ^ j → dec j (enc j x y) = (x, y)
  | 0, x, y, h0, h1, h2, h3 => by
    simp at h1 h3
    simp only [dec, enc, Prod.mk.injEq]; omega
  | j + 1, x, y, h0, h1, h2, h3 => by
    have hp : (2 : Int) ^ (j + 1) = 2 ^ j * 2 := Int.pow_succ ..
    have hpos := pow_pos' j
    have hbd := enc_bd j (rotX j (bt x j) (bt y j) x y) (rotY j (bt x j) (bt y j) x y)
    have hq := quarter_bd (bt01 x j) (bt01 y j)
    simp only [enc]
    rw [dec_step j _ _ hbd.1 hbd.2 hq]
    by_cases hx : x < 2 ^ j
    · have bx := bt_lo h0 hx
      by_cases hy : y < 2 ^ j
      · have bY := bt_lo h2 hy
        have ih := dec_enc j y x h2 hy h0 hx
        simp [bx, bY, quarter, rotX, rotY, ih]
      · have bY := bt_hi (by omega : 2 ^ j ≤ y) h3
        have hc := enc_congr j x (y - 2 ^ j) 0 1
        rw [show y - 2 ^ j + 2 ^ j * 1 = y by omega, show x + 2 ^ j * 0 = x by omega] at hc
        have ih := dec_enc j x (y - 2 ^ j) h0 hx (by omega) (by omega)
        simp [bx, bY, quarter, rotX, rotY, hc, ih]
    · have bx := bt_hi (by omega : 2 ^ j ≤ x) h1
      by_cases hy : y < 2 ^ j
      · have bY := bt_lo h2 hy
        have hc := enc_congr j (2 ^ j - 1 - y) (2 ^ j - 1 - (x - 2 ^ j)) 0 (-1)
        rw [show 2 ^ j - 1 - (x - 2 ^ j) + 2 ^ j * -1 = 2 ^ j - 1 - x by omega, show 2 ^ j - 1 - y + 2 ^ j * 0 = 2 ^ j - 1 - y by omega] at hc
        have ih := dec_enc j (2 ^ j - 1 - y) (2 ^ j - 1 - (x - 2 ^ j)) (by omega) (by omega) (by omega) (by omega)
        simp [bx, bY, quarter, rotX, rotY, hc, ih]
        omega
      · have bY := bt_hi (by omega : 2 ^ j ≤ y) h3
        have hc := enc_congr j (x - 2 ^ j) (y - 2 ^ j) 1 1
        rw [show y - 2 ^ j + 2 ^ j * 1 = y by omega, show x - 2 ^ j + 2 ^ j * 1 = x by omega] at hc
        have ih := dec_enc j (x - 2 ^ j) (y - 2 ^ j) (by omega) (by omega) (by omega) (by omega)
        simp [bx, bY, quarter, rotX, rotY, hc, ih]

theorem enc_small (s : Nat) : ∀ (i : Nat) (x y : Int), 0 ≤ x → x < 2 ^ s → 0 ≤ y → y < 2 ^ s → enc (s + i) x y < 4 ^ s
  | 0, x, y, _, _, _, _ => (enc_bd s x y).2
  | i + 1, x, y, h0, h1, h2, h3 => by
    have hle : (2 : Int) ^ s ≤ 2 ^ (s + i) := by
      rw [Int.pow_add]
      have := pow_pos' s; have h' := pow_pos' i
      have : (2 : Int) ^ s * 1 ≤ 2 ^ s * 2 ^ i := Int.mul_le_mul_of_nonneg_left (by omega) (by omega)
      omega
    show enc (s + i + 1) x y < _
    have bx := bt_lo h0 (Int.lt_of_lt_of_le h1 hle)
    have bY := bt_lo h2 (Int.lt_of_lt_of_le h3 hle)
    simp [enc, bx, bY, quarter, rotX, rotY]
    exact enc_small s i y x h2 h3 h0 h1

theorem dec_top : ∀ s : Nat, dec s (4 ^ s - 1) = (2 ^ s - 1, 0)
  | 0 => by simp [dec]
  | s + 1 => by
    have hp : (4 : Int) ^ (s + 1) = 4 ^ s * 4 := Int.pow_succ ..
    have hp2 : (2 : Int) ^ (s + 1) = 2 ^ s * 2 := Int.pow_succ ..
    have h4 := four_pos s
    rw [show (4 : Int) ^ (s + 1) - 1 = 4 ^ s * 3 + (4 ^ s - 1) by omega, dec_step s 3 _ (by omega) (by omega) (by decide), dec_top s]
    simp [rotX, rotY]
    omega

theorem dec_corner (s : Nat) : ∀ i : Nat, dec (s + i) (4 ^ s - 1) = (2 ^ s - 1, 0) ∨ dec (s + i) (4 ^ s - 1) = (0, 2 ^ s - 1)
  | 0 => .inl (dec_top s)
  | i + 1 => by
    have h4 := four_pos s
    have hle : (4 : Int) ^ s ≤ 4 ^ (s + i) := by
      rw [Int.pow_add]
      have h' := four_pos i
      have : (4 : Int) ^ s * 1 ≤ 4 ^ s * 4 ^ i := Int.mul_le_mul_of_nonneg_left (by omega) (by omega)
      omega
    have := dec_step (s + i) 0 (4 ^ s - 1) (by omega) (by omega) (by decide)
    rw [show (4 : Int) ^ (s + i) * 0 + (4 ^ s - 1) = 4 ^ s - 1 by omega] at this
    show dec (s + i + 1) _ = _ ∨ dec (s + i + 1) _ = _
    rw [this]
    rcases dec_corner s i with h | h <;> simp [h, rotX, rotY]

theorem dec_bd : ∀ (j : Nat) (h : Int), 0 ≤ (dec j h).1 ∧ (dec j h).1 < 2 ^ j ∧ 0 ≤ (dec j h).2 ∧ (dec j h).2 < 2 ^ j
  | 0, h => by simp [dec]
  | j + 1, h => by
    have ih := dec_bd j h
    have hp2 : (2 : Int) ^ (j + 1) = 2 ^ j * 2 := Int.pow_succ ..
    have hpos := pow_pos' j
    simp only [dec]
    generalize hrx : h / 4 ^ j / 2 % 2 = rx
    generalize hry : (h / 4 ^ j + rx) % 2 = ry
    have r1 : rx = 0 ∨ rx = 1 := by omega
    have r2 : ry = 0 ∨ ry = 1 := by omega
    rcases r1 with rfl | rfl <;> rcases r2 with rfl | rfl <;> simp [rotX, rotY] <;> omega

end Go.Proofs.Ytancdjhojdfejaa.H
