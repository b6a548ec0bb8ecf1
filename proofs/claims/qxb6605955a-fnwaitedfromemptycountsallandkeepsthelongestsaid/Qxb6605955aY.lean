/-
  The law FnWaitedCountsOneAndOldestIsTheLargerWait.
-/
import Derived.Test.Qxb6605955aX
namespace Go.Proofs.Qxb6605955a
open Go.RowKit

theorem num_ninf : Num 18442240474082181120 := ⟨by decide, by decide⟩
theorem key_ninf : key 18442240474082181120 = -9218868437227405312 := by decide +kernel
theorem mx_ninf {S : Nat} (h : Fin S) : mx 18442240474082181120 S = S := mx_lt (by rw [key_ninf]; exact h.key.1)

theorem le_ord {x y : Nat} (hx : Num x) (hy : Num y) (h : key x ≤ key y) : (FloatKind.f64.format.order x y == some Ordering.lt || FloatKind.f64.format.order x y == some Ordering.eq) = true := by
  rcases Int.lt_or_eq_of_le h with h | h
  · rw [ord_lt hx hy h]; rfl
  · rw [ord_eq hx hy h]; rfl
theorem ge_ord {x y : Nat} (hx : Num x) (hy : Num y) (h : key y ≤ key x) : (FloatKind.f64.format.order x y == some Ordering.gt || FloatKind.f64.format.order x y == some Ordering.eq) = true := by
  rcases Int.lt_or_eq_of_le h with h | h
  · rw [ord_gt hx hy h]; rfl
  · rw [ord_eq hx hy h.symm]; rfl

set_option maxHeartbeats 4000000 in
theorem law3 (c d : Int) (o : Nat) (w : World) (ho : o < 18446744073709551616) (h1 : -9223372036854775808 ≤ d) (h2 : d ≤ 9223372036854775807) :
    Calls Try.prog 3 #[.int .i64 c, .float .f64 o, .int .i64 d] w fun r w' => r = .returned (.bool true) ∧ Below w.heap.size w w' := by
  obtain ⟨_, _, _, hsec⟩ := secW_facts d h1 h2
  have Hsec : Hid (Sec d (secW d)) := hsec
  clear hsec
  have Hmx : Hid (mx 18442240474082181120 (secW d) = secW d) := mx_ninf Hsec.out.fin
  have HS : Hid (Num (secW d)) := Hsec.out.fin.toNum
  have Hq : Hid (Num (floatOfInt .f64 (d.tdiv 1000000000))) := (fI_val (d.tdiv 1000000000) (by have := tdiv_facts d h1 h2; omega) (by have := tdiv_facts d h1 h2; omega)).1.toNum
  have hw1 : wrap64 1 = 1 := by decide +kernel
  go_enter Try.func3, Try.ntmps3
  go_wp2_with fail
  refine (negInf7 _).mono ?_
  rintro r w1 ⟨rfl, hw⟩
  have hw := hw.symm; subst hw
  go_wp2_with fail
  refine (waited8_num _ 0 d _ _ ?_ ?_ ?_ ?_ num_ninf h1 h2).mono ?_
  · simp [go_sem]
  · simp [go_sem]
  · simp [go_sem]
  · simp [go_sem]
  rintro r w1 ⟨rfl, rfl⟩
  rw [Hmx.out]
  -- the first half: d alone
  rcases Int.lt_trichotomy d 0 with hd | hd | hd
  · obtain ⟨hk0, hk1, hk2⟩ := Hsec.out.neg hd
    have os0 := ord_lt HS.out num_zero (by rw [key_zero]; exact hk0)
    obtain ⟨T, hT, hT1, hT2, hT3⟩ := sub_one (d.tdiv 1000000000) (by have := tdiv_facts d h1 h2; omega) (by have := tdiv_facts d h1 h2; omega)
    have eT := run_sub (floatOfInt .f64 (d.tdiv 1000000000)) _ _ hT
    have hb1 := le_ord (x := T) ⟨hT1, hT2⟩ HS.out (by rw [hT3]; exact hk1)
    clear hT hT1 hT2 hT3 hk1 hk0
    by_cases hr : d.tmod 1000000000 = 0
    · have hr' : (d.tmod 1000000000 == 0) = true := by simpa using hr
      have osq : FloatKind.f64.format.order (secW d) (floatOfInt .f64 (d.tdiv 1000000000)) = some .eq := ord_eq HS.out Hq.out (Hsec.out.whole hr)
      clear hr hk2
      go_wp2_with fail
      clear os0 eT hb1 hr' osq hd
      cases hN : isN o with
      | true =>
        refine (waited8_nan _ c d o _ ?_ ?_ ?_ ?_ hN h1 h2).mono ?_
        · simp [go_sem]
        · simp [go_sem]
        · simp [go_sem]
        · simp [go_sem]
        rintro r w1 ⟨rfl, z, n, hz1, hz2, rfl⟩
        go_wp2_with (first | (go_at_call_of 10 (Value.float FloatKind.f64 o); refine (isNaN10 o _ ho).mono ?_; rintro r w1 ⟨rfl, rfl⟩) | (go_at_call_of 10 (Value.float FloatKind.f64 z); refine (isNaN10 z _ hz1).mono ?_; rintro r w1 ⟨rfl, rfl⟩))
        go_ret
        exact ⟨rfl, by repeat (first | exact Below.refl _ _ | apply below_drewN | apply Below.drew | (refine Below.alloc ?_ (by simp) _) | (refine Below.setCell ?_ (by simp) _))⟩
      | false =>
        have Ho : Hid (Num o) := ⟨ho, hN⟩
        have Hg : Hid (Num (mx o (secW d))) := mx_num Ho.out HS.out
        have g1 := ge_ord Hg.out Ho.out (mx_key o (secW d)).1
        have g2 := ge_ord Hg.out HS.out (mx_key o (secW d)).2
        refine (waited8_num _ c d o _ ?_ ?_ ?_ ?_ Ho.out h1 h2).mono ?_
        · simp [go_sem]
        · simp [go_sem]
        · simp [go_sem]
        · simp [go_sem]
        rintro r w1 ⟨rfl, rfl⟩
        cases he : mx o (secW d) == o with
        | true =>
          go_wp2_with fail
          refine (isNaN10 o _ ho).mono ?_
          rintro r w1 ⟨rfl, rfl⟩
          go_wp2_with fail
          refine (same11 _ o _ Hg.out Ho.out).mono ?_
          rintro r w1 ⟨rfl, rfl⟩
          go_wp2_with fail
          refine (maxF12 o _ _ Ho.out HS.out).mono ?_
          rintro r w1 ⟨rfl, rfl⟩
          go_wp2_with fail
          refine (same11 _ _ _ Hg.out Hg.out).mono ?_
          rintro r w1 ⟨rfl, rfl⟩
          rw [beq_self_eq_true]
          go_wp2_with fail
          go_ret
          exact ⟨rfl, by repeat (first | exact Below.refl _ _ | apply below_drewN | apply Below.drew | (refine Below.alloc ?_ (by simp) _) | (refine Below.setCell ?_ (by simp) _))⟩
        | false =>
          have he2 : (mx o (secW d) == secW d) = true := by
            rcases mx_or o (secW d) with h | h
            · rw [h, beq_self_eq_true] at he; cases he
            · exact beq_iff_eq.2 h
          go_wp2_with fail
          refine (isNaN10 o _ ho).mono ?_
          rintro r w1 ⟨rfl, rfl⟩
          go_wp2_with fail
          refine (same11 _ o _ Hg.out Ho.out).mono ?_
          rintro r w1 ⟨rfl, rfl⟩
          go_wp2_with fail
          refine (same11 _ (secW d) _ Hg.out HS.out).mono ?_
          rintro r w1 ⟨rfl, rfl⟩
          go_wp2_with fail
          refine (maxF12 o _ _ Ho.out HS.out).mono ?_
          rintro r w1 ⟨rfl, rfl⟩
          go_wp2_with fail
          refine (same11 _ _ _ Hg.out Hg.out).mono ?_
          rintro r w1 ⟨rfl, rfl⟩
          rw [beq_self_eq_true]
          go_wp2_with fail
          go_ret
          exact ⟨rfl, by repeat (first | exact Below.refl _ _ | apply below_drewN | apply Below.drew | (refine Below.alloc ?_ (by simp) _) | (refine Below.setCell ?_ (by simp) _))⟩
    · have hr' : (d.tmod 1000000000 == 0) = false := by simpa using hr
      have hb2 := le_ord HS.out (y := floatOfInt .f64 (d.tdiv 1000000000)) Hq.out hk2
      clear hr hk2
      go_wp2_with fail
      clear os0 eT hb1 hb2 hr' hd
      cases hN : isN o with
      | true =>
        refine (waited8_nan _ c d o _ ?_ ?_ ?_ ?_ hN h1 h2).mono ?_
        · simp [go_sem]
        · simp [go_sem]
        · simp [go_sem]
        · simp [go_sem]
        rintro r w1 ⟨rfl, z, n, hz1, hz2, rfl⟩
        go_wp2_with (first | (go_at_call_of 10 (Value.float FloatKind.f64 o); refine (isNaN10 o _ ho).mono ?_; rintro r w1 ⟨rfl, rfl⟩) | (go_at_call_of 10 (Value.float FloatKind.f64 z); refine (isNaN10 z _ hz1).mono ?_; rintro r w1 ⟨rfl, rfl⟩))
        go_ret
        exact ⟨rfl, by repeat (first | exact Below.refl _ _ | apply below_drewN | apply Below.drew | (refine Below.alloc ?_ (by simp) _) | (refine Below.setCell ?_ (by simp) _))⟩
      | false =>
        have Ho : Hid (Num o) := ⟨ho, hN⟩
        have Hg : Hid (Num (mx o (secW d))) := mx_num Ho.out HS.out
        have g1 := ge_ord Hg.out Ho.out (mx_key o (secW d)).1
        have g2 := ge_ord Hg.out HS.out (mx_key o (secW d)).2
        refine (waited8_num _ c d o _ ?_ ?_ ?_ ?_ Ho.out h1 h2).mono ?_
        · simp [go_sem]
        · simp [go_sem]
        · simp [go_sem]
        · simp [go_sem]
        rintro r w1 ⟨rfl, rfl⟩
        cases he : mx o (secW d) == o with
        | true =>
          go_wp2_with fail
          refine (isNaN10 o _ ho).mono ?_
          rintro r w1 ⟨rfl, rfl⟩
          go_wp2_with fail
          refine (same11 _ o _ Hg.out Ho.out).mono ?_
          rintro r w1 ⟨rfl, rfl⟩
          go_wp2_with fail
          refine (maxF12 o _ _ Ho.out HS.out).mono ?_
          rintro r w1 ⟨rfl, rfl⟩
          go_wp2_with fail
          refine (same11 _ _ _ Hg.out Hg.out).mono ?_
          rintro r w1 ⟨rfl, rfl⟩
          rw [beq_self_eq_true]
          go_wp2_with fail
          go_ret
          exact ⟨rfl, by repeat (first | exact Below.refl _ _ | apply below_drewN | apply Below.drew | (refine Below.alloc ?_ (by simp) _) | (refine Below.setCell ?_ (by simp) _))⟩
        | false =>
          have he2 : (mx o (secW d) == secW d) = true := by
            rcases mx_or o (secW d) with h | h
            · rw [h, beq_self_eq_true] at he; cases he
            · exact beq_iff_eq.2 h
          go_wp2_with fail
          refine (isNaN10 o _ ho).mono ?_
          rintro r w1 ⟨rfl, rfl⟩
          go_wp2_with fail
          refine (same11 _ o _ Hg.out Ho.out).mono ?_
          rintro r w1 ⟨rfl, rfl⟩
          go_wp2_with fail
          refine (same11 _ (secW d) _ Hg.out HS.out).mono ?_
          rintro r w1 ⟨rfl, rfl⟩
          go_wp2_with fail
          refine (maxF12 o _ _ Ho.out HS.out).mono ?_
          rintro r w1 ⟨rfl, rfl⟩
          go_wp2_with fail
          refine (same11 _ _ _ Hg.out Hg.out).mono ?_
          rintro r w1 ⟨rfl, rfl⟩
          rw [beq_self_eq_true]
          go_wp2_with fail
          go_ret
          exact ⟨rfl, by repeat (first | exact Below.refl _ _ | apply below_drewN | apply Below.drew | (refine Below.alloc ?_ (by simp) _) | (refine Below.setCell ?_ (by simp) _))⟩
  · have os0 := ord_eq HS.out num_zero (by rw [Hsec.out.zero hd])
    have hr' : (d.tmod 1000000000 == 0) = true := by rw [hd]; rfl
    have osq : FloatKind.f64.format.order (secW d) (floatOfInt .f64 (d.tdiv 1000000000)) = some .eq := ord_eq HS.out Hq.out (Hsec.out.whole (by rw [hd]; rfl))
    have hnz : nz (secW d) = false := by rw [Hsec.out.zero hd]; rfl
    have hd0 : (d == 0) = true := by rw [hd]; rfl
    have hd1 : d ≤ 0 := by omega
    have hd2 : 0 ≤ d := by omega
    rw [Int.tmod_eq_emod_of_nonneg hd2] at hr'
    rw [Int.tdiv_eq_ediv_of_nonneg hd2] at osq
    clear hd
    go_wp2_with (go_at_call 9; refine (isNegZero9 (secW d) _ HS.out).mono ?_; rintro r w1 ⟨rfl, rfl⟩)
    clear os0 hr' osq hnz hd0 hd1 hd2
    cases hN : isN o with
    | true =>
      refine (waited8_nan _ c d o _ ?_ ?_ ?_ ?_ hN h1 h2).mono ?_
      · simp [go_sem]
      · simp [go_sem]
      · simp [go_sem]
      · simp [go_sem]
      rintro r w1 ⟨rfl, z, n, hz1, hz2, rfl⟩
      go_wp2_with (first | (go_at_call_of 10 (Value.float FloatKind.f64 o); refine (isNaN10 o _ ho).mono ?_; rintro r w1 ⟨rfl, rfl⟩) | (go_at_call_of 10 (Value.float FloatKind.f64 z); refine (isNaN10 z _ hz1).mono ?_; rintro r w1 ⟨rfl, rfl⟩))
      go_ret
      exact ⟨rfl, by repeat (first | exact Below.refl _ _ | apply below_drewN | apply Below.drew | (refine Below.alloc ?_ (by simp) _) | (refine Below.setCell ?_ (by simp) _))⟩
    | false =>
      have Ho : Hid (Num o) := ⟨ho, hN⟩
      have Hg : Hid (Num (mx o (secW d))) := mx_num Ho.out HS.out
      have g1 := ge_ord Hg.out Ho.out (mx_key o (secW d)).1
      have g2 := ge_ord Hg.out HS.out (mx_key o (secW d)).2
      refine (waited8_num _ c d o _ ?_ ?_ ?_ ?_ Ho.out h1 h2).mono ?_
      · simp [go_sem]
      · simp [go_sem]
      · simp [go_sem]
      · simp [go_sem]
      rintro r w1 ⟨rfl, rfl⟩
      cases he : mx o (secW d) == o with
      | true =>
        go_wp2_with fail
        refine (isNaN10 o _ ho).mono ?_
        rintro r w1 ⟨rfl, rfl⟩
        go_wp2_with fail
        refine (same11 _ o _ Hg.out Ho.out).mono ?_
        rintro r w1 ⟨rfl, rfl⟩
        go_wp2_with fail
        refine (maxF12 o _ _ Ho.out HS.out).mono ?_
        rintro r w1 ⟨rfl, rfl⟩
        go_wp2_with fail
        refine (same11 _ _ _ Hg.out Hg.out).mono ?_
        rintro r w1 ⟨rfl, rfl⟩
        rw [beq_self_eq_true]
        go_wp2_with fail
        go_ret
        exact ⟨rfl, by repeat (first | exact Below.refl _ _ | apply below_drewN | apply Below.drew | (refine Below.alloc ?_ (by simp) _) | (refine Below.setCell ?_ (by simp) _))⟩
      | false =>
        have he2 : (mx o (secW d) == secW d) = true := by
          rcases mx_or o (secW d) with h | h
          · rw [h, beq_self_eq_true] at he; cases he
          · exact beq_iff_eq.2 h
        go_wp2_with fail
        refine (isNaN10 o _ ho).mono ?_
        rintro r w1 ⟨rfl, rfl⟩
        go_wp2_with fail
        refine (same11 _ o _ Hg.out Ho.out).mono ?_
        rintro r w1 ⟨rfl, rfl⟩
        go_wp2_with fail
        refine (same11 _ (secW d) _ Hg.out HS.out).mono ?_
        rintro r w1 ⟨rfl, rfl⟩
        go_wp2_with fail
        refine (maxF12 o _ _ Ho.out HS.out).mono ?_
        rintro r w1 ⟨rfl, rfl⟩
        go_wp2_with fail
        refine (same11 _ _ _ Hg.out Hg.out).mono ?_
        rintro r w1 ⟨rfl, rfl⟩
        rw [beq_self_eq_true]
        go_wp2_with fail
        go_ret
        exact ⟨rfl, by repeat (first | exact Below.refl _ _ | apply below_drewN | apply Below.drew | (refine Below.alloc ?_ (by simp) _) | (refine Below.setCell ?_ (by simp) _))⟩
  · obtain ⟨hk0, hk1, hk2⟩ := Hsec.out.pos hd
    have os0 := ord_gt HS.out num_zero (by rw [key_zero]; exact hk0)
    obtain ⟨T, hT, hT1, hT2, hT3⟩ := add_one (d.tdiv 1000000000) (by have := tdiv_facts d h1 h2; omega) (by have := tdiv_facts d h1 h2; omega)
    have eT := run_add (floatOfInt .f64 (d.tdiv 1000000000)) _ _ hT
    have hb1 := le_ord HS.out (y := T) ⟨hT1, hT2⟩ (by rw [hT3]; exact hk2)
    have hb2 := le_ord (x := floatOfInt .f64 (d.tdiv 1000000000)) Hq.out HS.out hk1
    clear hT hT1 hT2 hT3 hk1 hk0 hk2
    have hd2 : 0 ≤ d := by omega
    rw [Int.tdiv_eq_ediv_of_nonneg hd2] at hb2 eT
    by_cases hr : d.tmod 1000000000 = 0
    · have hr' : (d.tmod 1000000000 == 0) = true := by simpa using hr
      have osq : FloatKind.f64.format.order (secW d) (floatOfInt .f64 (d.tdiv 1000000000)) = some .eq := ord_eq HS.out Hq.out (Hsec.out.whole hr)
      rw [Int.tmod_eq_emod_of_nonneg hd2] at hr'
      rw [Int.tdiv_eq_ediv_of_nonneg hd2] at osq
      clear hr
      go_wp2_with fail
      clear os0 eT hb1 hb2 hr' osq hd hd2
      cases hN : isN o with
      | true =>
        refine (waited8_nan _ c d o _ ?_ ?_ ?_ ?_ hN h1 h2).mono ?_
        · simp [go_sem]
        · simp [go_sem]
        · simp [go_sem]
        · simp [go_sem]
        rintro r w1 ⟨rfl, z, n, hz1, hz2, rfl⟩
        go_wp2_with (first | (go_at_call_of 10 (Value.float FloatKind.f64 o); refine (isNaN10 o _ ho).mono ?_; rintro r w1 ⟨rfl, rfl⟩) | (go_at_call_of 10 (Value.float FloatKind.f64 z); refine (isNaN10 z _ hz1).mono ?_; rintro r w1 ⟨rfl, rfl⟩))
        go_ret
        exact ⟨rfl, by repeat (first | exact Below.refl _ _ | apply below_drewN | apply Below.drew | (refine Below.alloc ?_ (by simp) _) | (refine Below.setCell ?_ (by simp) _))⟩
      | false =>
        have Ho : Hid (Num o) := ⟨ho, hN⟩
        have Hg : Hid (Num (mx o (secW d))) := mx_num Ho.out HS.out
        have g1 := ge_ord Hg.out Ho.out (mx_key o (secW d)).1
        have g2 := ge_ord Hg.out HS.out (mx_key o (secW d)).2
        refine (waited8_num _ c d o _ ?_ ?_ ?_ ?_ Ho.out h1 h2).mono ?_
        · simp [go_sem]
        · simp [go_sem]
        · simp [go_sem]
        · simp [go_sem]
        rintro r w1 ⟨rfl, rfl⟩
        cases he : mx o (secW d) == o with
        | true =>
          go_wp2_with fail
          refine (isNaN10 o _ ho).mono ?_
          rintro r w1 ⟨rfl, rfl⟩
          go_wp2_with fail
          refine (same11 _ o _ Hg.out Ho.out).mono ?_
          rintro r w1 ⟨rfl, rfl⟩
          go_wp2_with fail
          refine (maxF12 o _ _ Ho.out HS.out).mono ?_
          rintro r w1 ⟨rfl, rfl⟩
          go_wp2_with fail
          refine (same11 _ _ _ Hg.out Hg.out).mono ?_
          rintro r w1 ⟨rfl, rfl⟩
          rw [beq_self_eq_true]
          go_wp2_with fail
          go_ret
          exact ⟨rfl, by repeat (first | exact Below.refl _ _ | apply below_drewN | apply Below.drew | (refine Below.alloc ?_ (by simp) _) | (refine Below.setCell ?_ (by simp) _))⟩
        | false =>
          have he2 : (mx o (secW d) == secW d) = true := by
            rcases mx_or o (secW d) with h | h
            · rw [h, beq_self_eq_true] at he; cases he
            · exact beq_iff_eq.2 h
          go_wp2_with fail
          refine (isNaN10 o _ ho).mono ?_
          rintro r w1 ⟨rfl, rfl⟩
          go_wp2_with fail
          refine (same11 _ o _ Hg.out Ho.out).mono ?_
          rintro r w1 ⟨rfl, rfl⟩
          go_wp2_with fail
          refine (same11 _ (secW d) _ Hg.out HS.out).mono ?_
          rintro r w1 ⟨rfl, rfl⟩
          go_wp2_with fail
          refine (maxF12 o _ _ Ho.out HS.out).mono ?_
          rintro r w1 ⟨rfl, rfl⟩
          go_wp2_with fail
          refine (same11 _ _ _ Hg.out Hg.out).mono ?_
          rintro r w1 ⟨rfl, rfl⟩
          rw [beq_self_eq_true]
          go_wp2_with fail
          go_ret
          exact ⟨rfl, by repeat (first | exact Below.refl _ _ | apply below_drewN | apply Below.drew | (refine Below.alloc ?_ (by simp) _) | (refine Below.setCell ?_ (by simp) _))⟩
    · have hr' : (d.tmod 1000000000 == 0) = false := by simpa using hr
      rw [Int.tmod_eq_emod_of_nonneg hd2] at hr'
      clear hr
      go_wp2_with fail
      clear os0 eT hb1 hb2 hr' hd hd2
      cases hN : isN o with
      | true =>
        refine (waited8_nan _ c d o _ ?_ ?_ ?_ ?_ hN h1 h2).mono ?_
        · simp [go_sem]
        · simp [go_sem]
        · simp [go_sem]
        · simp [go_sem]
        rintro r w1 ⟨rfl, z, n, hz1, hz2, rfl⟩
        go_wp2_with (first | (go_at_call_of 10 (Value.float FloatKind.f64 o); refine (isNaN10 o _ ho).mono ?_; rintro r w1 ⟨rfl, rfl⟩) | (go_at_call_of 10 (Value.float FloatKind.f64 z); refine (isNaN10 z _ hz1).mono ?_; rintro r w1 ⟨rfl, rfl⟩))
        go_ret
        exact ⟨rfl, by repeat (first | exact Below.refl _ _ | apply below_drewN | apply Below.drew | (refine Below.alloc ?_ (by simp) _) | (refine Below.setCell ?_ (by simp) _))⟩
      | false =>
        have Ho : Hid (Num o) := ⟨ho, hN⟩
        have Hg : Hid (Num (mx o (secW d))) := mx_num Ho.out HS.out
        have g1 := ge_ord Hg.out Ho.out (mx_key o (secW d)).1
        have g2 := ge_ord Hg.out HS.out (mx_key o (secW d)).2
        refine (waited8_num _ c d o _ ?_ ?_ ?_ ?_ Ho.out h1 h2).mono ?_
        · simp [go_sem]
        · simp [go_sem]
        · simp [go_sem]
        · simp [go_sem]
        rintro r w1 ⟨rfl, rfl⟩
        cases he : mx o (secW d) == o with
        | true =>
          go_wp2_with fail
          refine (isNaN10 o _ ho).mono ?_
          rintro r w1 ⟨rfl, rfl⟩
          go_wp2_with fail
          refine (same11 _ o _ Hg.out Ho.out).mono ?_
          rintro r w1 ⟨rfl, rfl⟩
          go_wp2_with fail
          refine (maxF12 o _ _ Ho.out HS.out).mono ?_
          rintro r w1 ⟨rfl, rfl⟩
          go_wp2_with fail
          refine (same11 _ _ _ Hg.out Hg.out).mono ?_
          rintro r w1 ⟨rfl, rfl⟩
          rw [beq_self_eq_true]
          go_wp2_with fail
          go_ret
          exact ⟨rfl, by repeat (first | exact Below.refl _ _ | apply below_drewN | apply Below.drew | (refine Below.alloc ?_ (by simp) _) | (refine Below.setCell ?_ (by simp) _))⟩
        | false =>
          have he2 : (mx o (secW d) == secW d) = true := by
            rcases mx_or o (secW d) with h | h
            · rw [h, beq_self_eq_true] at he; cases he
            · exact beq_iff_eq.2 h
          go_wp2_with fail
          refine (isNaN10 o _ ho).mono ?_
          rintro r w1 ⟨rfl, rfl⟩
          go_wp2_with fail
          refine (same11 _ o _ Hg.out Ho.out).mono ?_
          rintro r w1 ⟨rfl, rfl⟩
          go_wp2_with fail
          refine (same11 _ (secW d) _ Hg.out HS.out).mono ?_
          rintro r w1 ⟨rfl, rfl⟩
          go_wp2_with fail
          refine (maxF12 o _ _ Ho.out HS.out).mono ?_
          rintro r w1 ⟨rfl, rfl⟩
          go_wp2_with fail
          refine (same11 _ _ _ Hg.out Hg.out).mono ?_
          rintro r w1 ⟨rfl, rfl⟩
          rw [beq_self_eq_true]
          go_wp2_with fail
          go_ret
          exact ⟨rfl, by repeat (first | exact Below.refl _ _ | apply below_drewN | apply Below.drew | (refine Below.alloc ?_ (by simp) _) | (refine Below.setCell ?_ (by simp) _))⟩
end Go.Proofs.Qxb6605955a
