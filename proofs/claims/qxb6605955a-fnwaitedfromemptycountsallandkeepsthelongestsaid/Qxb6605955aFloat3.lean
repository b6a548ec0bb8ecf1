/-
  Seconds: 'float64(d / 1e9) + float64(d % 1e9) / 1e9': on Qxb6605955aFloat2.
-/
import Derived.Test.Qxb6605955aFloat2
set_option exponentiation.threshold 2000
namespace Go.Proofs.Qxb6605955a
open Ieee

theorem read9 : double.read 4741671816366391296 = .number false 8388608000000000 (-23) := by decide +kernel
theorem log9 : Nat.log2 8388608000000000 = 52 := by decide +kernel

/-- The rung of 1. -/
theorem V_unit : V 4607182418800017408 = U := by
  have h := V_at 1022 4503599627370496 (Or.inr (Nat.le_refl _)) (by omega)
  rw [show 1022 * 4503599627370496 + 4503599627370496 = 4607182418800017408 from by decide, show (4503599627370496 : Nat) = 2 ^ 52 from by decide, ← Nat.pow_add] at h
  rw [U_def]; exact h
theorem VI_unit : VI 4607182418800017408 = (U : Int) := by
  have := VI_nat 4607182418800017408
  rw [V_unit] at this; exact this
theorem VI_unit_neg : VI (-4607182418800017408) = -(U : Int) := by
  have := VI_neg 4607182418800017408
  rw [V_unit] at this; exact this

theorem VI_p1 : VI 1 = 1 := by have := VI_nat 1; rw [V_one] at this; exact this
theorem VI_m1 : VI (-1) = -1 := by have := VI_neg 1; rw [V_one] at this; exact this
theorem U_pos : 0 < U := by rw [U_def]; exact Nat.two_pow_pos _

theorem log_normal {m : Nat} (h1 : 4503599627370496 ≤ m) (h2 : m < 9007199254740992) : m.log2 = 52 :=
  (Nat.log2_eq_iff (by omega)).2 ⟨h1, h2⟩

/-- The quotient's magnitude: above nought, at most one. -/
theorem quo_bounds (m s a : Nat) (st : Nat) (hst : st ≤ 1) (hm1 : 4503599627370496 ≤ m) (hm2 : m < 9007199254740992) (ha1 : 0 < a) (ha2 : a < 1000000000) (he : m * 2 ^ s = a * U) :
    32 ≤ s ∧ 1 ≤ (2 * (m * 2 ^ 54 / 8388608000000000) + st) * 2 ^ (s - 32) ∧ (2 * (m * 2 ^ 54 / 8388608000000000) + st) * 2 ^ (s - 32) ≤ U := by
  rw [U_def] at *
  have hs1 : 1021 < s := by
    rcases Nat.lt_or_ge 1021 s with h | h
    · exact h
    · exfalso
      have h1 : 2 ^ s ≤ 2 ^ 1021 := Nat.pow_le_pow_right (by decide) h
      have h2 : m * 2 ^ s < 2 ^ 53 * 2 ^ 1021 := Nat.lt_of_lt_of_le (Nat.mul_lt_mul_of_pos_right (show m < 2 ^ 53 from hm2) (Nat.two_pow_pos s)) (Nat.mul_le_mul_left _ h1)
      rw [← Nat.pow_add, he] at h2
      have h3 : 1 * 2 ^ 1074 ≤ a * 2 ^ 1074 := Nat.mul_le_mul_right _ ha1
      omega
  have hs2 : s < 1052 := by
    rcases Nat.lt_or_ge s 1052 with h | h
    · exact h
    · exfalso
      have h1 : 2 ^ 1052 ≤ 2 ^ s := Nat.pow_le_pow_right (by decide) h
      have h2 : 2 ^ 52 * 2 ^ 1052 ≤ m * 2 ^ s := Nat.mul_le_mul (show 2 ^ 52 ≤ m from hm1) h1
      rw [← Nat.pow_add, he] at h2
      have h3 : a * 2 ^ 1074 < 2 ^ 30 * 2 ^ 1074 := Nat.mul_lt_mul_of_pos_right (by omega) (Nat.two_pow_pos _)
      rw [← Nat.pow_add] at h3
      omega
  refine ⟨by omega, ?_, ?_⟩
  · have hD : 1 ≤ m * 2 ^ 54 / 8388608000000000 := by
      have : 8388608000000000 ≤ m * 2 ^ 54 := by omega
      omega
    have := Nat.two_pow_pos (s - 32)
    exact Nat.mul_pos (by omega) this
  · have h1 : m < 1000000000 * 2 ^ (1074 - s) := by
      have h2 : m * 2 ^ s < 1000000000 * 2 ^ 1074 := by rw [he]; exact Nat.mul_lt_mul_of_pos_right ha2 (Nat.two_pow_pos _)
      rw [show (2 : Nat) ^ 1074 = 2 ^ (1074 - s) * 2 ^ s from by rw [← Nat.pow_add]; congr 1; omega, ← Nat.mul_assoc] at h2
      exact Nat.lt_of_mul_lt_mul_right h2
    have h2 : m * 2 ^ 54 < 2 ^ (1105 - s) * 8388608000000000 := by
      have h3 := Nat.mul_lt_mul_of_pos_right h1 (Nat.two_pow_pos 54)
      have e1 : 1000000000 * 2 ^ (1074 - s) * 2 ^ 54 = 2 ^ (1105 - s) * 8388608000000000 := by
        rw [show (8388608000000000 : Nat) = 1000000000 * 2 ^ 23 from by decide, show (2 : Nat) ^ (1105 - s) = 2 ^ (1074 - s) * 2 ^ 31 from by rw [← Nat.pow_add]; congr 1; omega, show (2 : Nat) ^ 54 = 2 ^ 31 * 2 ^ 23 from by decide]
        generalize 2 ^ (1074 - s) = p
        omega
      rw [e1] at h3; exact h3
    have h3 : m * 2 ^ 54 / 8388608000000000 < 2 ^ (1105 - s) := Nat.div_lt_of_lt_mul (by rw [Nat.mul_comm 8388608000000000]; exact h2)
    have h4 : 2 * (m * 2 ^ 54 / 8388608000000000) + st ≤ 2 ^ (1106 - s) := by
      rw [show (2 : Nat) ^ (1106 - s) = 2 * 2 ^ (1105 - s) from by rw [← Nat.pow_succ']; congr 1; omega]
      omega
    have h5 := Nat.mul_le_mul_right (2 ^ (s - 32)) h4
    rw [← Nat.pow_add, show 1106 - s + (s - 32) = 1074 from by omega] at h5
    exact h5

theorem ng_of_key_pos {x : Nat} (hx : x < 18446744073709551616) (h : 0 < key x) : ng x = false := by
  rw [key_rung x hx] at h
  cases hb : ng x with
  | false => rfl
  | true => rw [hb] at h; unfold sg at h; rw [if_pos rfl] at h; omega
theorem ng_of_key_neg {x : Nat} (hx : x < 18446744073709551616) (h : key x < 0) : ng x = true := by
  rw [key_rung x hx] at h
  cases hb : ng x with
  | true => rfl
  | false => rw [hb] at h; unfold sg at h; rw [if_neg (by decide)] at h; omega
theorem rung_abs {x : Nat} (hx : x < 18446744073709551616) : ((x % 9223372036854775808 : Nat) : Int) = key x ∨ ((x % 9223372036854775808 : Nat) : Int) = -key x := by
  rw [key_rung x hx]; unfold sg; split <;> omega

theorem sg_inj_abs (b : Bool) (m : Nat) (z : Int) (h : sg b m = z) : m = z.natAbs := by
  unfold sg at h; split at h <;> omega

theorem rnd_unit_pos {z X : Nat} (hR : Rnd z (sg false X)) (hX1 : 1 ≤ X) (hX2 : X ≤ U) : Fin z ∧ 0 < key z ∧ key z ≤ 4607182418800017408 := by
  have hv : sg false X = (X : Int) := by unfold sg; rw [if_neg (by decide)]
  rw [hv] at hR
  have a1 : (X : Int) ≤ VI 4607182418800017408 := by rw [VI_unit]; exact Int.ofNat_le.2 hX2
  have b1 : VI 1 ≤ (X : Int) := by rw [VI_p1]; exact Int.ofNat_le.2 hX1
  have a := hR.2.2.2 4607182418800017408 (by decide) (by decide) a1
  have b := hR.2.2.1 1 (by decide) (by decide) b1
  exact ⟨fin_of_key hR.1 hR.2.1 (by omega) (by omega), by omega, a⟩
theorem rnd_unit_neg {z X : Nat} (hR : Rnd z (sg true X)) (hX1 : 1 ≤ X) (hX2 : X ≤ U) : Fin z ∧ -4607182418800017408 ≤ key z ∧ key z < 0 := by
  have hv : sg true X = -(X : Int) := by unfold sg; rw [if_pos rfl]
  rw [hv] at hR
  have a1 : VI (-4607182418800017408) ≤ -(X : Int) := by rw [VI_unit_neg]; exact Int.neg_le_neg (Int.ofNat_le.2 hX2)
  have b1 : -(X : Int) ≤ VI (-1) := by rw [VI_m1]; exact Int.neg_le_neg (Int.ofNat_le.2 hX1)
  have a := hR.2.2.1 (-4607182418800017408) (by decide) (by decide) a1
  have b := hR.2.2.2 (-1) (by decide) (by decide) b1
  exact ⟨fin_of_key hR.1 hR.2.1 (by omega) (by omega), a, by omega⟩

/-- float64(n) / 1e9, where 0 < |n| < 1e9. -/
theorem div9 (n : Int) (h0 : n ≠ 0) (h1 : -1000000000 < n) (h2 : n < 1000000000) :
    ∃ z, double.div (fI n) 4741671816366391296 = some z ∧ Fin z ∧ (0 < n → 0 < key z ∧ key z ≤ 4607182418800017408) ∧ (n < 0 → -4607182418800017408 ≤ key z ∧ key z < 0) := by
  obtain ⟨hf, hv, hp, hn⟩ := fI_val n (by omega) (by omega)
  generalize fI n = x at *
  obtain ⟨m, s, hr, hsg, hV, hnorm, hm2⟩ := read_fin x hf.1 hf.2
  have hra := rung_abs hf.1
  have hm1 : 4503599627370496 ≤ m := hnorm (by omega)
  have hlog := log_normal hm1 hm2
  have hmag : m * 2 ^ s = n.natAbs * U := by
    rw [hv] at hsg
    have := sg_inj_abs _ _ _ hsg
    rw [this, Int.natAbs_mul, Int.natAbs_natCast]
  unfold Format.div
  rw [hr, read9]
  simp only [Datum.quotient, dFrac, hlog, log9, Bool.xor_false]
  rw [if_neg (by decide)]
  simp only [Nat.add_sub_cancel, Nat.shiftLeft_eq]
  rw [show (52 + 2 : Nat) = 54 from rfl]
  generalize hst : (m * 2 ^ 54 % 8388608000000000 != 0).toNat = st
  have hst' : st ≤ 1 := by rw [← hst]; exact Bool.toNat_le _
  obtain ⟨hs, hq1, hq2⟩ := quo_bounds m s n.natAbs st hst' hm1 hm2 (by omega) (by omega) hmag
  clear hst hst' hmag hlog hnorm hV hsg hr hra
  generalize 2 * (m * 2 ^ 54 / 8388608000000000) + st = Q at hq1 hq2 ⊢
  refine ⟨_, rfl, ?_⟩
  have hpl : ((s : Int) - 1074 - -23 - ((54 : Nat) : Int) - 1) = ((s - 32 : Nat) : Int) - 1074 := by omega
  simp only [Format.write]
  rw [hpl]
  have hR := nearest_rnd (ng x) Q (s - 32)
  generalize double.nearest (ng x) Q (((s - 32 : Nat) : Int) - 1074) = z at hR ⊢
  generalize Q * 2 ^ (s - 32) = X at hR hq1 hq2
  have hX1 : 1 ≤ X := hq1
  have hX2 : X ≤ U := hq2
  clear hq1 hq2
  rcases Int.lt_or_le n 0 with hneg | hpos
  · have hb := ng_of_key_neg hf.1 (by have := hn hneg; omega)
    rw [hb] at hR
    obtain ⟨f, a, b⟩ := rnd_unit_neg hR hX1 hX2
    exact ⟨f, fun h => absurd h (by omega), fun _ => ⟨a, b⟩⟩
  · have hb := ng_of_key_pos hf.1 (by have := hp (by omega); omega)
    rw [hb] at hR
    obtain ⟨f, a, b⟩ := rnd_unit_pos hR hX1 hX2
    exact ⟨f, fun _ => ⟨a, b⟩, fun h => absurd h (by omega)⟩
end Go.Proofs.Qxb6605955a
