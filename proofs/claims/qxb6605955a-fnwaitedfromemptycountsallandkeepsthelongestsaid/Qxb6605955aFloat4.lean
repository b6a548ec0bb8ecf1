/-
  Seconds as a word; the larger of two words; equal words: on Qxb6605955aFloat3.
-/
import Derived.Test.Qxb6605955aFloat3
set_option exponentiation.threshold 2000
namespace Go.Proofs.Qxb6605955a
open Ieee

theorem fI_zero : fI 0 = 0 := by decide +kernel
theorem div_zero9 : double.div 0 4741671816366391296 = some 0 := by decide +kernel
theorem add_zeros : double.add 0 0 = some 0 := by decide +kernel
theorem fin_zero : Fin 0 := ⟨by decide, by decide⟩
theorem key_zero : key 0 = 0 := rfl
theorem fin_one : Fin 4607182418800017408 := ⟨by decide, by decide⟩
theorem key_one : key 4607182418800017408 = 4607182418800017408 := by decide +kernel

/-- What Seconds gives: the facts that the laws ask of it. -/
structure Sec (d : Int) (S : Nat) : Prop where
  fin : Fin S
  whole : d.tmod 1000000000 = 0 → key S = key (fI (d.tdiv 1000000000))
  pos : 0 < d → 0 < key S ∧ key (fI (d.tdiv 1000000000)) ≤ key S ∧ key S ≤ key (fI (d.tdiv 1000000000 + 1))
  neg : d < 0 → key S < 0 ∧ key (fI (d.tdiv 1000000000 - 1)) ≤ key S ∧ key S ≤ key (fI (d.tdiv 1000000000))
  zero : d = 0 → S = 0

theorem tdiv_facts (d : Int) (h1 : -9223372036854775808 ≤ d) (h2 : d ≤ 9223372036854775807) :
    d.tdiv 1000000000 * 1000000000 + d.tmod 1000000000 = d ∧ -9223372037 ≤ d.tdiv 1000000000 ∧ d.tdiv 1000000000 ≤ 9223372037 ∧ -1000000000 < d.tmod 1000000000 ∧ d.tmod 1000000000 < 1000000000 ∧ (0 ≤ d → 0 ≤ d.tdiv 1000000000 ∧ 0 ≤ d.tmod 1000000000) ∧ (d ≤ 0 → d.tdiv 1000000000 ≤ 0 ∧ d.tmod 1000000000 ≤ 0) := by
  rcases Int.lt_or_le d 0 with h | h
  · obtain ⟨n, rfl⟩ : ∃ n : Nat, d = -(n : Int) := ⟨d.natAbs, by omega⟩
    rw [Int.neg_tdiv, Int.neg_tmod, Int.tdiv_eq_ediv_of_nonneg (by omega), Int.tmod_eq_emod_of_nonneg (by omega)]
    omega
  · rw [Int.tdiv_eq_ediv_of_nonneg h, Int.tmod_eq_emod_of_nonneg h]
    omega

theorem secs (d : Int) (h1 : -9223372036854775808 ≤ d) (h2 : d ≤ 9223372036854775807) :
    ∃ C S, double.div (fI (d.tmod 1000000000)) 4741671816366391296 = some C ∧ double.add (fI (d.tdiv 1000000000)) C = some S ∧ Sec d S := by
  obtain ⟨hqr, hq1, hq2, hr1, hr2, hp, hn⟩ := tdiv_facts d h1 h2
  by_cases hd : d = 0
  · subst hd
    refine ⟨0, 0, by rw [show (0 : Int).tmod 1000000000 = 0 from rfl, fI_zero]; exact div_zero9, by rw [show (0 : Int).tdiv 1000000000 = 0 from rfl, fI_zero]; exact add_zeros, fin_zero, fun _ => by rw [show (0 : Int).tdiv 1000000000 = 0 from rfl, fI_zero], by omega, by omega, fun _ => rfl⟩
  · obtain ⟨fA, vA, pA, nA⟩ := fI_val (d.tdiv 1000000000) (by omega) (by omega)
    generalize hq : d.tdiv 1000000000 = q at *
    generalize hr : d.tmod 1000000000 = r at *
    by_cases hr0 : r = 0
    · subst hr0
      obtain ⟨S, hS, hR⟩ := add_fin (fI q) 0 fA fin_zero
      rw [key_zero, VI_zero, Int.add_zero] at hR
      have hk := hR.key_eq (Int.le_of_lt fA.key.1) (Int.le_of_lt fA.key.2) rfl
      have hf : Fin S := fin_of_key hR.1 hR.2.1 (by rw [hk]; exact fA.key.1) (by rw [hk]; exact fA.key.2)
      refine ⟨0, S, by rw [fI_zero]; exact div_zero9, hS, ⟨hf, fun _ => by rw [hq]; exact hk, fun h => ?_, fun h => ?_, fun h => absurd h hd⟩⟩
      · obtain ⟨fB, vB, pB, nB⟩ := fI_val (q + 1) (by omega) (by omega)
        rw [hq, hk]
        refine ⟨by have := pA (by omega); omega, Int.le_refl _, ?_⟩
        rcases Int.lt_or_le (key (fI (q + 1))) (key (fI q)) with hlt | hle
        · have := VI_lt hlt
          rw [vA, vB, Int.add_mul, Int.one_mul] at this
          have hU := U_pos
          omega
        · exact hle
      · obtain ⟨fB, vB, pB, nB⟩ := fI_val (q - 1) (by omega) (by omega)
        rw [hq, hk]
        refine ⟨by have := nA (by omega); omega, ?_, Int.le_refl _⟩
        rcases Int.lt_or_le (key (fI q)) (key (fI (q - 1))) with hlt | hle
        · have := VI_lt hlt
          rw [vA, vB, Int.sub_mul, Int.one_mul] at this
          have hU := U_pos
          omega
        · exact hle
    · obtain ⟨C, hC, fC, pC, nC⟩ := div9 r hr0 hr1 hr2
      obtain ⟨S, hS, hR⟩ := add_fin (fI q) C fA fC
      rcases Int.lt_or_le d 0 with hneg | hpos
      · obtain ⟨c1, c2⟩ := nC (by have := hn (by omega); omega)
        have v1 := VI_le c1
        have v2 := VI_lt c2
        rw [VI_unit_neg] at v1
        rw [VI_zero] at v2
        obtain ⟨fB, vB, pB, nB⟩ := fI_val (q - 1) (by omega) (by omega)
        have a := hR.2.2.2 _ (Int.le_of_lt fA.key.1) (Int.le_of_lt fA.key.2) (by rw [vA]; omega)
        have b := hR.2.2.1 _ (Int.le_of_lt fB.key.1) (Int.le_of_lt fB.key.2) (by rw [vB, vA, Int.sub_mul, Int.one_mul]; omega)
        have hk : key S < 0 := by
          by_cases hq0 : q < 0
          · have := nA hq0; omega
          · have hq00 : q = 0 := by have := (hn (by omega)).1; omega
            have c := hR.2.2.2 (key C) (Int.le_of_lt fC.key.1) (Int.le_of_lt fC.key.2) (by rw [vA, hq00, Int.zero_mul, Int.zero_add]; exact Int.le_refl _)
            omega
        have kA := fA.key
        have kB := fB.key
        exact ⟨C, S, hC, hS, ⟨fin_of_key hR.1 hR.2.1 (by omega) (by omega), fun h => absurd (hr ▸ h) hr0, fun h => absurd h (by omega), fun _ => by rw [hq]; exact ⟨hk, b, a⟩, fun h => absurd h hd⟩⟩
      · obtain ⟨c1, c2⟩ := pC (by have := hp (by omega); omega)
        have v1 := VI_lt c1
        have v2 := VI_le c2
        rw [VI_unit] at v2
        rw [VI_zero] at v1
        obtain ⟨fB, vB, pB, nB⟩ := fI_val (q + 1) (by omega) (by omega)
        have a := hR.2.2.1 _ (Int.le_of_lt fA.key.1) (Int.le_of_lt fA.key.2) (by rw [vA]; omega)
        have b := hR.2.2.2 _ (Int.le_of_lt fB.key.1) (Int.le_of_lt fB.key.2) (by rw [vB, vA, Int.add_mul, Int.one_mul]; omega)
        have hk : 0 < key S := by
          by_cases hq0 : 0 < q
          · have := pA hq0; omega
          · have hq00 : q = 0 := by have := (hp (by omega)).1; omega
            have c := hR.2.2.1 (key C) (Int.le_of_lt fC.key.1) (Int.le_of_lt fC.key.2) (by rw [vA, hq00, Int.zero_mul, Int.zero_add]; exact Int.le_refl _)
            omega
        have kA := fA.key
        have kB := fB.key
        exact ⟨C, S, hC, hS, ⟨fin_of_key hR.1 hR.2.1 (by omega) (by omega), fun h => absurd (hr ▸ h) hr0, fun _ => by rw [hq]; exact ⟨hk, a, b⟩, fun h => absurd h (by omega), fun h => absurd h hd⟩⟩

/-- float64(q) + 1 and float64(q) - 1. -/
theorem add_one (q : Int) (h1 : -9223372038 ≤ q) (h2 : q ≤ 9223372038) : ∃ T, double.add (fI q) 4607182418800017408 = some T ∧ T < 18446744073709551616 ∧ isN T = false ∧ key T = key (fI (q + 1)) := by
  obtain ⟨fA, vA, _⟩ := fI_val q (by omega) (by omega)
  obtain ⟨fB, vB, _⟩ := fI_val (q + 1) (by omega) (by omega)
  obtain ⟨T, hT, hR⟩ := add_fin (fI q) 4607182418800017408 fA fin_one
  rw [key_one, VI_unit, vA] at hR
  exact ⟨T, hT, hR.1, hR.2.1, hR.key_eq (Int.le_of_lt fB.key.1) (Int.le_of_lt fB.key.2) (by rw [vB, Int.add_mul, Int.one_mul])⟩
theorem sub_one (q : Int) (h1 : -9223372038 ≤ q) (h2 : q ≤ 9223372038) : ∃ T, double.sub (fI q) 4607182418800017408 = some T ∧ T < 18446744073709551616 ∧ isN T = false ∧ key T = key (fI (q - 1)) := by
  obtain ⟨fA, vA, _⟩ := fI_val q (by omega) (by omega)
  obtain ⟨fB, vB, _⟩ := fI_val (q - 1) (by omega) (by omega)
  obtain ⟨T, hT, hR⟩ := sub_fin (fI q) 4607182418800017408 fA fin_one
  rw [key_one, VI_unit, vA] at hR
  exact ⟨T, hT, hR.1, hR.2.1, hR.key_eq (Int.le_of_lt fB.key.1) (Int.le_of_lt fB.key.2) (by rw [vB, Int.sub_mul, Int.one_mul])⟩
end Go.Proofs.Qxb6605955a
