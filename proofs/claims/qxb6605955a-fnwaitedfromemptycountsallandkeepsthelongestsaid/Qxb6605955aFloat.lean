/-
  Binary64 by rungs: the plain law. No Go in sight: a word's value in units of the least subnormal, that rounding to nearest keeps the order, sums, the order of words.
-/
import Ieee.Arith
namespace Go.Proofs.Qxb6605955a
open Ieee

/-! ### The value of a rung -/
/-- What rung r stands for, in units of 2 ^ (-1074). -/
def V (r : Nat) : Nat := if r < 4503599627370496 then r else (4503599627370496 + r % 4503599627370496) * 2 ^ (r / 4503599627370496 - 1)

theorem V_at (e k : Nat) (h : e = 0 ∨ 4503599627370496 ≤ k) (hk : k ≤ 9007199254740992) : V (e * 4503599627370496 + k) = k * 2 ^ e := by
  unfold V
  by_cases h0 : e * 4503599627370496 + k < 4503599627370496
  · have he : e = 0 := by omega
    subst he
    rw [if_pos h0]; simp
  · rw [if_neg h0]
    have hkB : 4503599627370496 ≤ k := by omega
    by_cases h1 : k = 9007199254740992
    · have hm : (e * 4503599627370496 + k) % 4503599627370496 = 0 := by omega
      have hd : (e * 4503599627370496 + k) / 4503599627370496 - 1 = e + 1 := by omega
      rw [hm, hd, h1, Nat.pow_succ]; omega
    · have hm : (e * 4503599627370496 + k) % 4503599627370496 = k - 4503599627370496 := by omega
      have hd : (e * 4503599627370496 + k) / 4503599627370496 - 1 = e := by omega
      rw [hm, hd, Nat.add_sub_cancel' hkB]

/-- Every rung in the form that rounding gives. -/
theorem rung_form (r : Nat) : ∃ e k, r = e * 4503599627370496 + k ∧ (e = 0 ∨ 4503599627370496 ≤ k) ∧ k < 9007199254740992 := by
  by_cases h : r < 4503599627370496
  · exact ⟨0, r, by omega, Or.inl rfl, by omega⟩
  · exact ⟨r / 4503599627370496 - 1, 4503599627370496 + r % 4503599627370496, by omega, Or.inr (by omega), by omega⟩

theorem V_succ (r : Nat) : V r < V (r + 1) := by
  obtain ⟨e, k, rfl, h1, h2⟩ := rung_form r
  rw [V_at e k h1 (by omega), Nat.add_assoc, V_at e (k + 1) (by omega) (by omega)]
  exact Nat.mul_lt_mul_of_pos_right (Nat.lt_succ_self k) (Nat.two_pow_pos e)

theorem V_lt {r s : Nat} (h : r < s) : V r < V s := by
  obtain ⟨d, rfl⟩ := Nat.exists_eq_add_of_lt h
  induction d with
  | zero => exact V_succ r
  | succ d ih => exact Nat.lt_trans (ih (by omega)) (V_succ (r + d + 1))
theorem V_le {r s : Nat} (h : r ≤ s) : V r ≤ V s := by
  rcases Nat.lt_or_eq_of_le h with h | rfl
  · exact Nat.le_of_lt (V_lt h)
  · exact Nat.le_refl _
theorem V_lt_iff {r s : Nat} : V r < V s ↔ r < s := by
  constructor
  · intro h
    rcases Nat.lt_or_ge r s with h' | h'
    · exact h'
    · exact absurd (V_le h') (by omega)
  · exact V_lt
theorem V_inj {r s : Nat} (h : V r = V s) : r = s := by
  rcases Nat.lt_trichotomy r s with h' | h' | h'
  · have := V_lt h'; omega
  · exact h'
  · have := V_lt h'; omega
theorem V_zero : V 0 = 0 := rfl
theorem V_one : V 1 = 1 := rfl

/-! ### Rounding to nearest -/
/-- The cut is within half a unit. -/
theorem cut_near (neg : Bool) (n d : Nat) (hd : d ≤ n.log2 + 2) : 2 * (Toward.even.cut neg n d * 2 ^ d) ≤ 2 * n + 2 ^ d ∧ 2 * n ≤ 2 * (Toward.even.cut neg n d * 2 ^ d) + 2 ^ d := by
  have hg : 1 <<< min d (n.log2 + 2) = 2 ^ d := by rw [Nat.min_eq_left hd, Nat.shiftLeft_eq, Nat.one_mul]
  have hpos : 0 < 2 ^ d := Nat.two_pow_pos d
  have hdm : 2 ^ d * (n / 2 ^ d) + n % 2 ^ d = n := Nat.div_add_mod n (2 ^ d)
  have hlt : n % 2 ^ d < 2 ^ d := Nat.mod_lt _ hpos
  unfold Toward.cut
  simp only [hg]
  generalize n / 2 ^ d = low at *
  generalize n % 2 ^ d = rest at *
  generalize 2 ^ d = g at *
  have hm : low * g = g * low := Nat.mul_comm _ _
  by_cases h1 : g < 2 * rest
  · simp only [h1, decide_true, Bool.true_or, Bool.toNat_true]
    rw [Nat.add_mul, Nat.one_mul]; omega
  · by_cases h2 : (g == 2 * rest && low % 2 == 1) = true
    · have h3 : g = 2 * rest := by simp at h2; exact h2.1
      simp only [h1, decide_false, Bool.false_or, h2, Bool.toNat_true]
      rw [Nat.add_mul, Nat.one_mul]; omega
    · have h2' : (g == 2 * rest && low % 2 == 1) = false := by simpa using h2
      simp only [h1, decide_false, Bool.false_or, h2', Bool.toNat_false, Nat.add_zero]
      omega
theorem cut_zero (neg : Bool) (n : Nat) : Toward.even.cut neg n 0 = n := by
  have := cut_near neg n 0 (Nat.zero_le _)
  simp at this
  omega

theorem pow52 : (2 : Nat) ^ 52 = 4503599627370496 := by decide
theorem pow_split (a b : Nat) (h : b ≤ a) : (2 : Nat) ^ a = 2 ^ b * 2 ^ (a - b) := by rw [← Nat.pow_add]; congr 1; omega
theorem dLeast : double.leastPlace = -1074 := by decide
theorem dBinade : double.binade = 4503599627370496 := by decide
theorem dInf : double.infRung = 9218868437227405312 := by decide
theorem dSign : double.signWeight = 9223372036854775808 := by decide
theorem dFrac : double.fractionBits = 52 := rfl

/-- What 'nearest' gives, by binade and significand. -/
theorem nearest_form (neg : Bool) (mag : Nat) (s : Nat) (hm : mag ≠ 0) :
    ∃ e k, double.nearest neg mag ((s : Int) - 1074) = double.word neg (min (e * 4503599627370496 + k) 9218868437227405312) ∧ (e = 0 ∨ 4503599627370496 ≤ k) ∧ k ≤ 9007199254740992 ∧
      2 * (k * 2 ^ e) ≤ 2 * (mag * 2 ^ s) + 2 ^ e ∧ 2 * (mag * 2 ^ s) ≤ 2 * (k * 2 ^ e) + 2 ^ e ∧ mag * 2 ^ s < 9007199254740992 * 2 ^ e ∧ (e = 0 ∨ 4503599627370496 * 2 ^ e ≤ mag * 2 ^ s) := by
  have t1 : 2 ^ mag.log2 ≤ mag := Nat.log2_self_le hm
  have t2 : mag < 2 ^ (mag.log2 + 1) := Nat.lt_log2_self
  unfold Format.nearest
  rw [if_neg hm]
  simp only [dLeast, dBinade, dInf, dFrac]
  generalize hn : mag.log2 = t at *
  by_cases hA : s + t ≤ 52
  · have e1 : max ((s : Int) - 1074 + (t : Int) - ((52 : Nat) : Int)) (-1074) = -1074 := by omega
    rw [e1, show ((s : Int) - 1074 - -1074).toNat = s from by omega, show (-1074 - ((s : Int) - 1074)).toNat = 0 from by omega, show ((-1074 : Int) - -1074).toNat = 0 from by decide, cut_zero, Nat.shiftLeft_eq]
    have hX : mag * 2 ^ s < 9007199254740992 := by
      have h1 : mag * 2 ^ s < 2 ^ (t + 1) * 2 ^ s := Nat.mul_lt_mul_of_pos_right t2 (Nat.two_pow_pos s)
      rw [← Nat.pow_add] at h1
      have h2 : 2 ^ (t + 1 + s) ≤ 2 ^ 53 := Nat.pow_le_pow_right (by decide) (by omega)
      have h3 : (2 : Nat) ^ 53 = 9007199254740992 := by decide
      omega
    exact ⟨0, mag * 2 ^ s, rfl, Or.inl rfl, by omega, by simp, by simp, by simpa using hX, Or.inl rfl⟩
  · have e1 : max ((s : Int) - 1074 + (t : Int) - ((52 : Nat) : Int)) (-1074) = ((s + t - 52 : Nat) : Int) - 1074 := by omega
    rw [e1, show (((s + t - 52 : Nat) : Int) - 1074 - -1074).toNat = s + t - 52 from by omega]
    have hX2 : mag * 2 ^ s < 9007199254740992 * 2 ^ (s + t - 52) := by
      have h1 : mag * 2 ^ s < 2 ^ (t + 1) * 2 ^ s := Nat.mul_lt_mul_of_pos_right t2 (Nat.two_pow_pos s)
      rw [← Nat.pow_add, pow_split (t + 1 + s) 53 (by omega), show t + 1 + s - 53 = s + t - 52 from by omega] at h1
      exact h1
    have hX1 : 4503599627370496 * 2 ^ (s + t - 52) ≤ mag * 2 ^ s := by
      have h1 : 2 ^ t * 2 ^ s ≤ mag * 2 ^ s := Nat.mul_le_mul_right _ t1
      rw [← Nat.pow_add, pow_split (t + s) 52 (by omega), show t + s - 52 = s + t - 52 from by omega] at h1
      exact h1
    by_cases hB : t ≤ 52
    · rw [show ((s : Int) - 1074 - (((s + t - 52 : Nat) : Int) - 1074)).toNat = 52 - t from by omega, show (((s + t - 52 : Nat) : Int) - 1074 - ((s : Int) - 1074)).toNat = 0 from by omega, cut_zero, Nat.shiftLeft_eq]
      have hk : mag * 2 ^ (52 - t) * 2 ^ (s + t - 52) = mag * 2 ^ s := by rw [Nat.mul_assoc, ← Nat.pow_add]; congr 2; omega
      have hpos := Nat.two_pow_pos (s + t - 52)
      have hk1 : 4503599627370496 ≤ mag * 2 ^ (52 - t) := by
        rw [← hk] at hX1
        exact Nat.le_of_mul_le_mul_right hX1 hpos
      have hk2 : mag * 2 ^ (52 - t) < 9007199254740992 := by
        rw [← hk] at hX2
        exact Nat.lt_of_mul_lt_mul_right hX2
      exact ⟨s + t - 52, mag * 2 ^ (52 - t), rfl, Or.inr hk1, by omega, by rw [hk]; omega, by rw [hk]; omega, hX2, Or.inr hX1⟩
    · rw [show ((s : Int) - 1074 - (((s + t - 52 : Nat) : Int) - 1074)).toNat = 0 from by omega, show (((s + t - 52 : Nat) : Int) - 1074 - ((s : Int) - 1074)).toNat = t - 52 from by omega, Nat.shiftLeft_zero]
      obtain ⟨c1, c2⟩ := cut_near neg mag (t - 52) (by omega)
      generalize Toward.even.cut neg mag (t - 52) = k at c1 c2 ⊢
      have hpow : (2 : Nat) ^ (s + t - 52) = 2 ^ (t - 52) * 2 ^ s := by rw [← Nat.pow_add]; congr 1; omega
      have m1 := Nat.mul_le_mul_right (2 ^ s) c1
      have m2 := Nat.mul_le_mul_right (2 ^ s) c2
      simp only [Nat.add_mul, Nat.mul_assoc, ← hpow] at m1 m2
      have hpos := Nat.two_pow_pos (s + t - 52)
      refine ⟨s + t - 52, k, rfl, Or.inr ?_, ?_, m1, m2, hX2, Or.inr hX1⟩
      · have h1 : 9007199254740992 * 2 ^ (s + t - 52) ≤ (2 * k + 1) * 2 ^ (s + t - 52) := by rw [Nat.add_mul, Nat.one_mul, Nat.mul_assoc]; omega
        have := Nat.le_of_mul_le_mul_right h1 hpos
        omega
      · have h1 : 2 * k * 2 ^ (s + t - 52) < (18014398509481984 + 1) * 2 ^ (s + t - 52) := by rw [Nat.add_mul, Nat.one_mul, Nat.mul_assoc]; omega
        have := Nat.lt_of_mul_lt_mul_right h1
        omega
/-- The rung is at most infinity's, and nearest: both ways. -/
theorem nearest_rung (neg : Bool) (mag : Nat) (s : Nat) (hm : mag ≠ 0) :
    ∃ r, double.nearest neg mag ((s : Int) - 1074) = double.word neg r ∧ r ≤ 9218868437227405312 ∧ (∀ t, t ≤ 9218868437227405312 → V t ≤ mag * 2 ^ s → t ≤ r) ∧ (∀ t, mag * 2 ^ s ≤ V t → r ≤ t) := by
  obtain ⟨e, k, h0, h1, h2, h3, h4, h5, h6⟩ := nearest_form neg mag s hm
  have hpos := Nat.two_pow_pos e
  refine ⟨_, h0, Nat.min_le_right _ _, fun t ht hV => ?_, fun t hV => ?_⟩
  · rcases Nat.lt_or_ge (e * 4503599627370496 + k) t with hlt | hge
    · exfalso
      by_cases hk : k = 9007199254740992
      · have := V_lt hlt
        rw [V_at e k h1 h2, hk] at this
        omega
      · have h7 := V_le (show e * 4503599627370496 + (k + 1) ≤ t by omega)
        rw [V_at e (k + 1) (by omega) (by omega), Nat.add_mul, Nat.one_mul] at h7
        omega
    · omega
  · rcases Nat.lt_or_ge t (e * 4503599627370496 + k) with hlt | hge
    · exfalso
      by_cases hk : e = 0 ∨ 4503599627370496 < k
      · have h7 := V_le (show t ≤ e * 4503599627370496 + (k - 1) by omega)
        rw [V_at e (k - 1) (by omega) (by omega)] at h7
        have h8 : k * 2 ^ e = (k - 1) * 2 ^ e + 2 ^ e := by
          have hk1 : k = (k - 1) + 1 := by omega
          rw [← Nat.succ_mul, Nat.succ_eq_add_one, ← hk1]
        omega
      · have h7 := V_lt hlt
        rw [V_at e k h1 h2] at h7
        have hkB : k = 4503599627370496 := by omega
        rw [hkB] at h7
        omega
    · omega

/-! ### Words -/
/-- A word's signed rung. -/
def key (x : Nat) : Int := if x < 9223372036854775808 then (x : Int) else 9223372036854775808 - (x : Int)
/-- Is the word a NaN? -/
def isN (x : Nat) : Bool := decide (9218868437227405312 < x % 9223372036854775808)
/-- The value of a signed rung, in units of 2 ^ (-1074). -/
def VI (c : Int) : Int := if c < 0 then -(V c.natAbs : Int) else (V c.natAbs : Int)

theorem VI_nat (t : Nat) : VI (t : Int) = V t := by unfold VI; rw [if_neg (by omega), Int.natAbs_natCast]
theorem VI_neg (t : Nat) : VI (-(t : Int)) = -(V t : Int) := by
  unfold VI
  by_cases h : t = 0
  · subst h; rfl
  · rw [if_pos (by omega), Int.natAbs_neg, Int.natAbs_natCast]
theorem VI_lt {a b : Int} (h : a < b) : VI a < VI b := by
  rcases Int.lt_or_le a 0 with ha | ha
  · obtain ⟨m, rfl⟩ : ∃ m : Nat, a = -(m : Int) := ⟨a.natAbs, by omega⟩
    have hm : 0 < V m := by have := V_lt (show 0 < m by omega); rw [V_zero] at this; exact this
    rcases Int.lt_or_le b 0 with hb | hb
    · obtain ⟨n, rfl⟩ : ∃ n : Nat, b = -(n : Int) := ⟨b.natAbs, by omega⟩
      have := V_lt (show n < m by omega)
      rw [VI_neg, VI_neg]; omega
    · obtain ⟨n, rfl⟩ := Int.eq_ofNat_of_zero_le hb
      rw [VI_neg, VI_nat]; omega
  · obtain ⟨m, rfl⟩ := Int.eq_ofNat_of_zero_le ha
    obtain ⟨n, rfl⟩ := Int.eq_ofNat_of_zero_le (show 0 ≤ b by omega)
    have := V_lt (show m < n by omega)
    rw [VI_nat, VI_nat]; omega
theorem VI_le {a b : Int} (h : a ≤ b) : VI a ≤ VI b := by
  rcases Int.lt_or_eq_of_le h with h | rfl
  · exact Int.le_of_lt (VI_lt h)
  · exact Int.le_refl _
theorem VI_lt_iff {a b : Int} : VI a < VI b ↔ a < b := by
  constructor
  · intro h
    rcases Int.lt_or_le a b with h' | h'
    · exact h'
    · have := VI_le h'; omega
  · exact VI_lt
theorem VI_zero : VI 0 = 0 := rfl

theorem word_key (neg : Bool) (r : Nat) (hr : r ≤ 9218868437227405312) : double.word neg r < 18446744073709551616 ∧ isN (double.word neg r) = false ∧ key (double.word neg r) = if neg then -(r : Int) else (r : Int) := by
  unfold Format.word
  rw [dSign]
  cases neg
  · simp only [Bool.false_eq_true, if_false]
    refine ⟨by omega, ?_, ?_⟩
    · unfold isN; simp; omega
    · unfold key; rw [if_pos (by omega)]
  · simp only [if_true]
    refine ⟨by omega, ?_, ?_⟩
    · unfold isN; simp; omega
    · unfold key; rw [if_neg (by omega)]; omega

/-- z is the word nearest to v (in units of 2 ^ (-1074)): both ways. -/
def Rnd (z : Nat) (v : Int) : Prop := z < 18446744073709551616 ∧ isN z = false ∧ (∀ c : Int, -9218868437227405312 ≤ c → c ≤ 9218868437227405312 → VI c ≤ v → c ≤ key z) ∧ (∀ c : Int, -9218868437227405312 ≤ c → c ≤ 9218868437227405312 → v ≤ VI c → key z ≤ c)

/-- A signed magnitude. -/
def sg (neg : Bool) (m : Nat) : Int := if neg then -(m : Int) else (m : Int)

theorem nearest_rnd (neg : Bool) (mag s : Nat) : Rnd (double.nearest neg mag ((s : Int) - 1074)) (sg neg (mag * 2 ^ s)) := by
  by_cases hm : mag = 0
  · have h0 : double.nearest neg mag ((s : Int) - 1074) = double.word neg 0 := by unfold Format.nearest; rw [if_pos hm]
    obtain ⟨k1, k2, k3⟩ := word_key neg 0 (by omega)
    have hk : key (double.word neg 0) = 0 := by rw [k3]; cases neg <;> rfl
    have hv : sg neg (mag * 2 ^ s) = 0 := by subst hm; cases neg <;> simp [sg]
    rw [h0, hv]
    refine ⟨k1, k2, fun c _ _ hc => ?_, fun c _ _ hc => ?_⟩
    · rw [hk]
      rcases Int.lt_or_le 0 c with h | h
      · have := VI_lt h; rw [VI_zero] at this; omega
      · exact h
    · rw [hk]
      rcases Int.lt_or_le c 0 with h | h
      · have := VI_lt h; rw [VI_zero] at this; omega
      · exact h
  · obtain ⟨r, h0, hr, ha, hb⟩ := nearest_rung neg mag s hm
    obtain ⟨k1, k2, k3⟩ := word_key neg r hr
    have hX : 0 < mag * 2 ^ s := Nat.mul_pos (Nat.pos_of_ne_zero hm) (Nat.two_pow_pos s)
    rw [h0]
    generalize mag * 2 ^ s = X at *
    refine ⟨k1, k2, ?_⟩
    rw [k3]
    cases neg
    · simp only [sg, Bool.false_eq_true, if_false]
      refine ⟨fun c hc1 hc2 hc => ?_, fun c hc1 hc2 hc => ?_⟩
      · rcases Int.lt_or_le c 0 with h | h
        · omega
        · obtain ⟨t, rfl⟩ := Int.eq_ofNat_of_zero_le h
          rw [VI_nat] at hc
          have := ha t (by omega) (by omega)
          omega
      · rcases Int.lt_or_le c 0 with h | h
        · have := VI_lt h; rw [VI_zero] at this; omega
        · obtain ⟨t, rfl⟩ := Int.eq_ofNat_of_zero_le h
          rw [VI_nat] at hc
          have := hb t (by omega)
          omega
    · simp only [sg, if_true]
      refine ⟨fun c hc1 hc2 hc => ?_, fun c hc1 hc2 hc => ?_⟩
      · rcases Int.lt_or_le c 0 with h | h
        · obtain ⟨t, rfl⟩ : ∃ t : Nat, c = -(t : Int) := ⟨c.natAbs, by omega⟩
          rw [VI_neg] at hc
          have := hb t (by omega)
          omega
        · have := VI_le h; rw [VI_zero] at this; omega
      · rcases Int.lt_or_le c 0 with h | h
        · obtain ⟨t, rfl⟩ : ∃ t : Nat, c = -(t : Int) := ⟨c.natAbs, by omega⟩
          rw [VI_neg] at hc
          have := ha t (by omega) (by omega)
          omega
        · omega
end Go.Proofs.Qxb6605955a
