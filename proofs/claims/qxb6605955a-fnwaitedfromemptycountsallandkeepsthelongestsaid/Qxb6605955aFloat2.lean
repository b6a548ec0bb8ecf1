/-
  Words read and compared, sums and differences: on Qxb6605955aFloat.
-/
import Derived.Test.Qxb6605955aFloat
set_option exponentiation.threshold 2000
namespace Go.Proofs.Qxb6605955a
open Ieee

/-- The word's sign. -/
def ng (x : Nat) : Bool := decide (9223372036854775808 ≤ x)

theorem sign_eq (x : Nat) (hx : x < 18446744073709551616) : (x / 9223372036854775808 % 2 == 1) = ng x := by
  unfold ng
  by_cases h : 9223372036854775808 ≤ x
  · have : x / 9223372036854775808 % 2 = 1 := by omega
    simp [this, h]
  · have : x / 9223372036854775808 % 2 = 0 := by omega
    simp [this, h]

theorem key_rung (x : Nat) (hx : x < 18446744073709551616) : key x = sg (ng x) (x % 9223372036854775808) := by
  unfold key sg ng
  by_cases h : x < 9223372036854775808
  · rw [if_pos h]; simp [show ¬ 9223372036854775808 ≤ x by omega]; omega
  · rw [if_neg h]; simp [show 9223372036854775808 ≤ x by omega]; omega

theorem VI_sg (b : Bool) (r : Nat) : VI (sg b r) = sg b (V r) := by
  cases b
  · simp only [sg, Bool.false_eq_true, if_false]; exact VI_nat r
  · simp only [sg, if_true]; exact VI_neg r

/-- A finite word, read. -/
theorem read_fin (x : Nat) (hx : x < 18446744073709551616) (hf : x % 9223372036854775808 < 9218868437227405312) :
    ∃ m s : Nat, double.read x = .number (ng x) m ((s : Int) - 1074) ∧ sg (ng x) (m * 2 ^ s) = VI (key x) ∧ m * 2 ^ s = V (x % 9223372036854775808) ∧ (4503599627370496 ≤ x % 9223372036854775808 → 4503599627370496 ≤ m) ∧ m < 9007199254740992 := by
  rw [key_rung x hx, VI_sg]
  unfold Format.read
  simp only [dSign, dBinade, dInf, dLeast, sign_eq x hx]
  generalize x % 9223372036854775808 = r at *
  by_cases h : r < 4503599627370496
  · rw [if_pos h]
    have hV : V r = r := by unfold V; rw [if_pos h]
    exact ⟨r, 0, rfl, by rw [hV, Nat.pow_zero, Nat.mul_one], by rw [hV, Nat.pow_zero, Nat.mul_one], by omega, by omega⟩
  · rw [if_neg h, if_pos hf]
    have hV : V r = (4503599627370496 + r % 4503599627370496) * 2 ^ (r / 4503599627370496 - 1) := by unfold V; rw [if_neg h]
    exact ⟨4503599627370496 + r % 4503599627370496, r / 4503599627370496 - 1, by congr 1 <;> omega, by rw [hV], by rw [hV], by omega, by omega⟩

theorem read_inf (x : Nat) (hx : x < 18446744073709551616) (hf : x % 9223372036854775808 = 9218868437227405312) : double.read x = .infinity (ng x) := by
  unfold Format.read
  simp only [dSign, dBinade, dInf, dLeast, sign_eq x hx, hf]
  rw [if_neg (by decide), if_neg (by decide)]
  simp

theorem read_nan (x : Nat) (h : isN x = true) : ∃ b t, double.read x = .nan b t := by
  have h' : 9218868437227405312 < x % 9223372036854775808 := by simpa [isN] using h
  unfold Format.read
  simp only [dSign, dBinade, dInf, dLeast]
  rw [if_neg (by omega), if_neg (by omega), if_neg (by omega)]
  exact ⟨_, _, rfl⟩

theorem order_nan_left (x y : Nat) (h : isN x = true) : double.order x y = none := by
  obtain ⟨b, t, hr⟩ := read_nan x h
  unfold Format.order
  rw [hr]; rfl
theorem order_nan_right (x y : Nat) (h : isN y = true) : double.order x y = none := by
  obtain ⟨b, t, hr⟩ := read_nan y h
  unfold Format.order
  rw [hr]
  cases double.read x <;> rfl

theorem signed_sg (b : Bool) (m up : Nat) : signed b m up = sg b (m * 2 ^ up) := by
  unfold signed sg
  rw [Nat.shiftLeft_eq]
theorem sg_mul (b : Bool) (m p : Nat) : sg b (m * p) = sg b m * (p : Int) := by
  cases b <;> simp [sg, Int.natCast_mul, Int.neg_mul]

/-- The order of two integers, as Ordering. -/
def cmpO (a b : Int) : Ordering := if a < b then .lt else if a = b then .eq else .gt
theorem compare_int (a b : Int) : compare a b = cmpO a b := rfl
theorem sg_bounds (b : Bool) {r c : Nat} (h : r < c) : -(c : Int) < sg b r ∧ sg b r < (c : Int) := by
  unfold sg; split <;> omega
theorem cmpO_lt {a b : Int} (h : a < b) : cmpO a b = .lt := by unfold cmpO; rw [if_pos h]
theorem cmpO_gt {a b : Int} (h : b < a) : cmpO a b = .gt := by unfold cmpO; rw [if_neg (by omega), if_neg (by omega)]
theorem cmpO_eq {a b : Int} (h : a = b) : cmpO a b = .eq := by unfold cmpO; rw [if_neg (by omega), if_pos h]
theorem cmpO_congr {a b c d : Int} (h1 : a < b ↔ c < d) (h2 : a = b ↔ c = d) : cmpO a b = cmpO c d := by
  unfold cmpO
  by_cases h : a < b
  · rw [if_pos h, if_pos (h1.1 h)]
  · rw [if_neg h, if_neg (fun e => h (h1.2 e))]
    by_cases h' : a = b
    · rw [if_pos h', if_pos (h2.1 h')]
    · rw [if_neg h', if_neg (fun e => h' (h2.2 e))]

theorem VI_inj {a b : Int} (h : VI a = VI b) : a = b := by
  rcases Int.lt_trichotomy a b with h' | h' | h'
  · have := VI_lt h'; omega
  · exact h'
  · have := VI_lt h'; omega

theorem mul_pos_lt {a b c : Int} (hc : 0 < c) : a * c < b * c ↔ a < b := ⟨fun h => Int.lt_of_mul_lt_mul_right h (Int.le_of_lt hc), fun h => Int.mul_lt_mul_of_pos_right h hc⟩
theorem mul_pos_eq {a b c : Int} (hc : 0 < c) : a * c = b * c ↔ a = b := ⟨fun h => Int.eq_of_mul_eq_mul_right (by omega) h, fun h => by rw [h]⟩

theorem num_cases (x : Nat) (h : isN x = false) : x % 9223372036854775808 < 9218868437227405312 ∨ x % 9223372036854775808 = 9218868437227405312 := by
  have : ¬ 9218868437227405312 < x % 9223372036854775808 := by simpa [isN] using h
  omega

/-- Two finite words' values, brought to one place. -/
theorem bring (m i : Nat) (p : Nat) (h : p ≤ i) : m * 2 ^ (((i : Int) - 1074) - ((p : Int) - 1074)).toNat * 2 ^ p = m * 2 ^ i := by
  rw [show (((i : Int) - 1074) - ((p : Int) - 1074)).toNat = i - p from by omega, Nat.mul_assoc, ← Nat.pow_add]
  congr 2; omega

/-- The order of two words that are no NaNs is the order of their signed rungs. -/
theorem order_num (x y : Nat) (hx : x < 18446744073709551616) (hy : y < 18446744073709551616) (nx : isN x = false) (ny : isN y = false) : double.order x y = some (cmpO (key x) (key y)) := by
  unfold Format.order
  rcases num_cases x nx with fx | fx
  · obtain ⟨m, i, rx, vx, _, _, _⟩ := read_fin x hx fx
    have kx := key_rung x hx
    rcases num_cases y ny with fy | fy
    · obtain ⟨n, j, ry, vy, _, _, _⟩ := read_fin y hy fy
      rw [rx, ry]
      simp only [Datum.order, signed_sg, compare_int]
      congr 1
      have hb : min ((i : Int) - 1074) ((j : Int) - 1074) = ((min i j : Nat) : Int) - 1074 := by omega
      rw [hb]
      have e1 := bring m i (min i j) (Nat.min_le_left _ _)
      have e2 := bring n j (min i j) (Nat.min_le_right _ _)
      have hc : (0 : Int) < ((2 ^ min i j : Nat) : Int) := by have := Nat.two_pow_pos (min i j); omega
      rw [← e1, sg_mul] at vx
      rw [← e2, sg_mul] at vy
      refine cmpO_congr ?_ ?_
      · rw [← mul_pos_lt hc, vx, vy, VI_lt_iff]
      · rw [← mul_pos_eq hc, vx, vy]; exact ⟨VI_inj, fun h => by rw [h]⟩
    · rw [rx, read_inf y hy fy]
      simp only [Datum.order]
      congr 1
      have ky := key_rung y hy
      rw [fy] at ky
      rw [kx, ky]
      have hb := sg_bounds (ng x) fx
      cases ng y
      · exact (cmpO_lt hb.2).symm
      · exact (cmpO_gt hb.1).symm
  · have kx := key_rung x hx
    rw [fx] at kx
    rcases num_cases y ny with fy | fy
    · obtain ⟨n, j, ry, vy, _, _, _⟩ := read_fin y hy fy
      rw [read_inf x hx fx, ry]
      simp only [Datum.order]
      congr 1
      have ky := key_rung y hy
      rw [kx, ky]
      have hb := sg_bounds (ng y) fy
      cases ng x
      · exact (cmpO_gt hb.2).symm
      · exact (cmpO_lt hb.1).symm
    · rw [read_inf x hx fx, read_inf y hy fy]
      have ky := key_rung y hy
      rw [fy] at ky
      rw [kx, ky]
      cases ng x <;> cases ng y <;> rfl

/-! ### Sums -/
theorem sg_abs (z : Int) (b : Bool) (p : Nat) : sg (if z = 0 then b else decide (z < 0)) (z.natAbs * p) = z * (p : Int) := by
  by_cases h : z = 0
  · subst h; simp [sg]
  · rw [if_neg h, sg_mul]
    congr 1
    unfold sg
    by_cases h2 : z < 0
    · simp [h2]; omega
    · simp [h2]; omega

theorem sg_not (b : Bool) (m : Nat) : sg (!b) m = - sg b m := by cases b <;> simp [sg]

/-- The sum of two numbers, written. -/
theorem sum_rnd (b c : Bool) (m n i j : Nat) : ∃ z, ((Datum.number b m ((i : Int) - 1074)).sum (.number c n ((j : Int) - 1074))).map double.write = some z ∧ Rnd z (sg b (m * 2 ^ i) + sg c (n * 2 ^ j)) := by
  have hb : min ((i : Int) - 1074) ((j : Int) - 1074) = ((min i j : Nat) : Int) - 1074 := by omega
  have e1 := bring m i (min i j) (Nat.min_le_left _ _)
  have e2 := bring n j (min i j) (Nat.min_le_right _ _)
  refine ⟨_, rfl, ?_⟩
  simp only [signed_sg, hb, Format.write]
  generalize hz : sg b (m * 2 ^ (((i : Int) - 1074) - (((min i j : Nat) : Int) - 1074)).toNat) + sg c (n * 2 ^ (((j : Int) - 1074) - (((min i j : Nat) : Int) - 1074)).toNat) = z
  have hr := nearest_rnd (if z = 0 then b && c else decide (z < 0)) z.natAbs (min i j)
  rw [sg_abs] at hr
  have hv : z * ((2 ^ min i j : Nat) : Int) = sg b (m * 2 ^ i) + sg c (n * 2 ^ j) := by
    rw [← hz, Int.add_mul, ← sg_mul, ← sg_mul, e1, e2]
  rw [hv] at hr
  exact hr

/-- A finite word. -/
def Fin (x : Nat) : Prop := x < 18446744073709551616 ∧ x % 9223372036854775808 < 9218868437227405312
theorem Fin.num {x : Nat} (h : Fin x) : isN x = false := by unfold isN; simp; have := h.2; omega
theorem Fin.key {x : Nat} (h : Fin x) : -9218868437227405312 < key x ∧ key x < 9218868437227405312 := by
  rw [key_rung x h.1]; have := sg_bounds (ng x) h.2; omega

theorem add_fin (x y : Nat) (hx : Fin x) (hy : Fin y) : ∃ z, double.add x y = some z ∧ Rnd z (VI (key x) + VI (key y)) := by
  obtain ⟨m, i, rx, vx, _⟩ := read_fin x hx.1 hx.2
  obtain ⟨n, j, ry, vy, _⟩ := read_fin y hy.1 hy.2
  unfold Format.add
  rw [rx, ry, ← vx, ← vy]
  exact sum_rnd _ _ m n i j

theorem sub_fin (x y : Nat) (hx : Fin x) (hy : Fin y) : ∃ z, double.sub x y = some z ∧ Rnd z (VI (key x) - VI (key y)) := by
  obtain ⟨m, i, rx, vx, _⟩ := read_fin x hx.1 hx.2
  obtain ⟨n, j, ry, vy, _⟩ := read_fin y hy.1 hy.2
  unfold Format.sub
  rw [rx, ry, ← vx, ← vy]
  have := sum_rnd (ng x) (!ng y) m n i j
  rw [sg_not, ← Int.sub_eq_add_neg] at this
  exact this

/-! ### Rounding what the format has -/
theorem Rnd.key_eq {z : Nat} {v c : Int} (h : Rnd z v) (h1 : -9218868437227405312 ≤ c) (h2 : c ≤ 9218868437227405312) (hv : VI c = v) : key z = c := by
  have a := h.2.2.1 c h1 h2 (by omega)
  have b := h.2.2.2 c h1 h2 (by omega)
  omega
theorem fin_of_key {z : Nat} (h1 : z < 18446744073709551616) (h2 : isN z = false) (h3 : -9218868437227405312 < key z) (h4 : key z < 9218868437227405312) : Fin z := by
  refine ⟨h1, ?_⟩
  rw [key_rung z h1] at h3 h4
  rcases num_cases z h2 with h | h
  · exact h
  · rw [h] at h3 h4
    unfold sg at h3 h4
    split at h3 <;> simp_all

/-- One second, in units: 2 ^ 1074. -/
def U : Nat := 2 ^ 1074
theorem U_def : U = 2 ^ 1074 := by rw [U]

/-- The rung of a whole number. -/
theorem rung_nat (n : Nat) (hn : n < 9007199254740992) : ∃ r, V r = n * U ∧ r < 9218868437227405312 ∧ (0 < n → 4503599627370496 ≤ r) := by
  by_cases h0 : n = 0
  · subst h0; exact ⟨0, by rw [Nat.zero_mul]; rfl, by omega, by omega⟩
  · have t1 : 2 ^ n.log2 ≤ n := Nat.log2_self_le h0
    have t2 : n < 2 ^ (n.log2 + 1) := Nat.lt_log2_self
    have ht : n.log2 ≤ 52 := by
      rcases Nat.lt_or_ge 52 n.log2 with h | h
      · have h1 : 2 ^ 53 ≤ 2 ^ n.log2 := Nat.pow_le_pow_right (by decide) h
        have h2 : (2 : Nat) ^ 53 = 9007199254740992 := by decide
        omega
      · exact h
    generalize n.log2 = t at *
    have k1 : 4503599627370496 ≤ n * 2 ^ (52 - t) := by
      have := Nat.mul_le_mul_right (2 ^ (52 - t)) t1
      rw [← Nat.pow_add, show t + (52 - t) = 52 from by omega] at this
      exact this
    have k2 : n * 2 ^ (52 - t) < 9007199254740992 := by
      have := Nat.mul_lt_mul_of_pos_right t2 (Nat.two_pow_pos (52 - t))
      rw [← Nat.pow_add, show t + 1 + (52 - t) = 53 from by omega] at this
      exact this
    refine ⟨(1022 + t) * 4503599627370496 + n * 2 ^ (52 - t), ?_, by omega, by omega⟩
    rw [V_at _ _ (Or.inr k1) (by omega), Nat.mul_assoc, ← Nat.pow_add, show 52 - t + (1022 + t) = 1074 from by omega, U_def]

/-- 'float64(n)'. -/
def fI (n : Int) : Nat := double.write (.number (n < 0) n.natAbs 0)

theorem sg_zero_mul (b : Bool) (p : Nat) : sg b (0 * p) = 0 := by rw [Nat.zero_mul]; cases b <;> rfl
theorem fI_rnd (n : Int) : Rnd (fI n) (n * (U : Int)) := by
  have h := nearest_rnd (decide (n < 0)) n.natAbs 1074
  have e : ((1074 : Nat) : Int) - 1074 = 0 := by decide
  rw [e] at h
  have hv := sg_abs n false (2 ^ 1074)
  by_cases h0 : n = 0
  · subst h0
    rw [Int.natAbs_zero, sg_zero_mul] at h
    rw [Int.zero_mul]
    exact h
  · rw [if_neg h0] at hv
    rw [hv, ← U_def] at h
    exact h

/-- A whole number that is less than 2 ^ 53 is kept to the unit. -/
theorem fI_val (n : Int) (h1 : -9007199254740992 < n) (h2 : n < 9007199254740992) : Fin (fI n) ∧ VI (key (fI n)) = n * (U : Int) ∧ (0 < n → 4503599627370496 ≤ key (fI n)) ∧ (n < 0 → key (fI n) ≤ -4503599627370496) := by
  obtain ⟨r, hr, hlt, hbig⟩ := rung_nat n.natAbs (by omega)
  have hR := fI_rnd n
  have hc : ∃ c : Int, VI c = n * (U : Int) ∧ -9218868437227405312 < c ∧ c < 9218868437227405312 ∧ (0 < n → 4503599627370496 ≤ c) ∧ (n < 0 → c ≤ -4503599627370496) := by
    rcases Int.lt_or_le n 0 with h | h
    · refine ⟨-(r : Int), ?_, by omega, by omega, by omega, by omega⟩
      rw [VI_neg, hr, Int.natCast_mul, ← Int.neg_mul]
      congr 1; omega
    · refine ⟨(r : Int), ?_, by omega, by omega, by omega, by omega⟩
      rw [VI_nat, hr, Int.natCast_mul]
      congr 1; omega
  obtain ⟨c, hc1, hc2, hc3, hc4, hc5⟩ := hc
  have hk := hR.key_eq (by omega) (by omega) hc1
  exact ⟨fin_of_key hR.1 hR.2.1 (by omega) (by omega), by rw [hk]; exact hc1, by rw [hk]; exact hc4, by rw [hk]; exact hc5⟩
end Go.Proofs.Qxb6605955a
