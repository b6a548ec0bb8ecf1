/-
  The callees: (time.Duration).Seconds, zzNegInf, zzIsNaN, zzIsNegZero, zzSameFloat, zzMaxFloat.
-/
import Derived.Test.Qxb6605955aProg
import Derived.Test.Qxb6605955aFloat4
import Derived.WalkKit
import Derived.WalkSpells
import Derived.WalkLawsBesides
import Derived.Laws.FloatArith
import Derived.RowKit3
import Derived.Deep.RegionWith
namespace Go.Proofs.Qxb6605955a
open Go.RowKit

/-! ### The operations on floats, as the walk takes them -/
theorem run_quo (x y r : Nat) (h : Ieee.double.div x y = some r) (w : World) : (binOp .quo 22 (.float .f64 x) (.float .f64 y)).run Try.prog w = .ok (.float .f64 r) w := run_float_arith w .quo 22 .f64 x y r h
theorem run_add (x y r : Nat) (h : Ieee.double.add x y = some r) (w : World) : (binOp .add 22 (.float .f64 x) (.float .f64 y)).run Try.prog w = .ok (.float .f64 r) w := run_float_arith w .add 22 .f64 x y r h
theorem run_sub (x y r : Nat) (h : Ieee.double.sub x y = some r) (w : World) : (binOp .sub 22 (.float .f64 x) (.float .f64 y)).run Try.prog w = .ok (.float .f64 r) w := run_float_arith w .sub 22 .f64 x y r h
theorem run_mul (x y r : Nat) (h : Ieee.double.mul x y = some r) (w : World) : (binOp .mul 22 (.float .f64 x) (.float .f64 y)).run Try.prog w = .ok (.float .f64 r) w := run_float_arith w .mul 22 .f64 x y r h

/-- What Seconds gives. -/
def secW (d : Int) : Nat := (Ieee.double.add (fI (d.tdiv 1000000000)) ((Ieee.double.div (fI (d.tmod 1000000000)) 4741671816366391296).getD 0)).getD 0
theorem secW_facts (d : Int) (h1 : -9223372036854775808 ≤ d) (h2 : d ≤ 9223372036854775807) :
    ∃ C, Ieee.double.div (fI (d.tmod 1000000000)) 4741671816366391296 = some C ∧ Ieee.double.add (fI (d.tdiv 1000000000)) C = some (secW d) ∧ Sec d (secW d) := by
  obtain ⟨C, S, hC, hS, h⟩ := secs d h1 h2
  have e : secW d = S := by unfold secW; rw [hC]; show (Ieee.double.add _ C).getD 0 = S; rw [hS]; rfl
  rw [e]
  exact ⟨C, hC, hS, h⟩

set_option maxHeartbeats 400000 in
theorem seconds33 (d : Int) (w : World) (h1 : -9223372036854775808 ≤ d) (h2 : d ≤ 9223372036854775807) :
    Calls Try.prog 33 #[.int .i64 d] w fun r w' => r = .returned (.float .f64 (secW d)) ∧ w' = w := by
  obtain ⟨C, hC, hS, _⟩ := secW_facts d h1 h2
  have e1 := run_quo (floatOfInt .f64 (d.tmod 1000000000)) _ C hC
  have e2 := run_add (floatOfInt .f64 (d.tdiv 1000000000)) _ _ hS
  clear hC hS
  go_enter Try.func33, Try.ntmps33
  go_wp2
  go_ret
  exact ⟨rfl, rfl⟩

theorem mul_inf : Ieee.double.mul 9214871658872686752 4621819117588971520 = some 9218868437227405312 := by decide +kernel

set_option maxHeartbeats 400000 in
theorem negInf7 (w : World) :
    Calls Try.prog 7 #[] w fun r w' => r = .returned (.float .f64 18442240474082181120) ∧ w' = w := by
  have e1 := run_mul _ _ _ mul_inf
  have e2 : ∀ w : World, (Op.unary .neg (.float .f64 9218868437227405312)).run Try.prog w = .ok (.float .f64 18442240474082181120) w := fun _ => by kernel_rfl
  go_enter Try.func7, Try.ntmps7
  go_wp2
  go_ret
  exact ⟨rfl, rfl⟩

/-! ### The order of two words, as the walk meets it -/
/-- A word that is no NaN. -/
def Num (x : Nat) : Prop := x < 18446744073709551616 ∧ isN x = false
theorem Fin.toNum {x : Nat} (h : Fin x) : Num x := ⟨h.1, h.num⟩
theorem ord_lt {x y : Nat} (hx : Num x) (hy : Num y) (h : key x < key y) : FloatKind.f64.format.order x y = some .lt := (order_num x y hx.1 hy.1 hx.2 hy.2).trans (congrArg some (cmpO_lt h))
theorem ord_gt {x y : Nat} (hx : Num x) (hy : Num y) (h : key y < key x) : FloatKind.f64.format.order x y = some .gt := (order_num x y hx.1 hy.1 hx.2 hy.2).trans (congrArg some (cmpO_gt h))
theorem ord_eq {x y : Nat} (hx : Num x) (hy : Num y) (h : key x = key y) : FloatKind.f64.format.order x y = some .eq := (order_num x y hx.1 hy.1 hx.2 hy.2).trans (congrArg some (cmpO_eq h))
theorem ord_nan_left {x : Nat} (y : Nat) (h : isN x = true) : FloatKind.f64.format.order x y = none := order_nan_left x y h
theorem ord_nan_right (x : Nat) {y : Nat} (h : isN y = true) : FloatKind.f64.format.order x y = none := order_nan_right x y h
theorem num_zero : Num 0 := fin_zero.toNum
theorem num_nz : Num 9223372036854775808 := ⟨by decide, by decide⟩
theorem key_nz : key 9223372036854775808 = 0 := by decide +kernel

theorem key_eq_zero {x : Nat} (h : key x = 0) : x = 0 ∨ x = 9223372036854775808 := by
  unfold key at h
  split at h <;> omega
theorem key_inj {x y : Nat} (hx : x < 18446744073709551616) (hy : y < 18446744073709551616) (h : key x = key y) (h0 : key x ≠ 0) : x = y := by
  unfold key at h h0
  split at h <;> split at h <;> (try split at h0) <;> omega

set_option maxHeartbeats 400000 in
theorem isNaN10 (x : Nat) (w : World) (hx : x < 18446744073709551616) :
    Calls Try.prog 10 #[.float .f64 x] w fun r w' => r = .returned (.bool (isN x)) ∧ w' = w := by
  cases hb : isN x with
  | true =>
    have ho := ord_nan_left x hb
    clear hb
    go_enter Try.func10, Try.ntmps10
    go_wp2
    go_ret
    exact ⟨rfl, rfl⟩
  | false =>
    have ho := ord_eq ⟨hx, hb⟩ ⟨hx, hb⟩ rfl
    clear hb
    go_enter Try.func10, Try.ntmps10
    go_wp2
    go_ret
    exact ⟨rfl, rfl⟩

theorem quo_pz : Ieee.double.div 4607182418800017408 0 = some 9218868437227405312 := by decide +kernel
theorem quo_nz : Ieee.double.div 4607182418800017408 9223372036854775808 = some 18442240474082181120 := by decide +kernel
theorem ord_pinf : FloatKind.f64.format.order 9218868437227405312 0 = some .gt := by decide +kernel
theorem ord_ninf : FloatKind.f64.format.order 18442240474082181120 0 = some .lt := by decide +kernel
theorem ord_zz : FloatKind.f64.format.order 0 0 = some .eq := by decide +kernel
theorem ord_nzz : FloatKind.f64.format.order 9223372036854775808 0 = some .eq := by decide +kernel

/-- Is the word that of -0? -/
def nz (x : Nat) : Bool := x == 9223372036854775808

set_option maxHeartbeats 400000 in
theorem isNegZero9_no (x : Nat) (o : Option Ordering) (w : World) (ho : FloatKind.f64.format.order x 0 = o) (hne : (o == some Ordering.eq) = false) :
    Calls Try.prog 9 #[.float .f64 x] w fun r w' => r = .returned (.bool false) ∧ w' = w := by
  go_enter Try.func9, Try.ntmps9
  go_wp2
  go_ret
  exact ⟨rfl, rfl⟩

set_option maxHeartbeats 400000 in
theorem isNegZero9_pz (w : World) :
    Calls Try.prog 9 #[.float .f64 0] w fun r w' => r = .returned (.bool false) ∧ w' = w := by
  have e1 := run_quo _ _ _ quo_pz
  have e2 := ord_pinf
  have e3 := ord_zz
  go_enter Try.func9, Try.ntmps9
  go_wp2
  go_ret
  exact ⟨rfl, rfl⟩
set_option maxHeartbeats 400000 in
theorem isNegZero9_nz (w : World) :
    Calls Try.prog 9 #[.float .f64 9223372036854775808] w fun r w' => r = .returned (.bool true) ∧ w' = w := by
  have e1 := run_quo _ _ _ quo_nz
  have e2 := ord_ninf
  have e3 := ord_nzz
  go_enter Try.func9, Try.ntmps9
  go_wp2
  go_ret
  exact ⟨rfl, rfl⟩

theorem nz_of_key {x : Nat} (h : key x ≠ 0) : nz x = false := by
  unfold nz
  rw [beq_eq_false_iff_ne]
  rintro rfl
  exact h key_nz

theorem isNegZero9 (x : Nat) (w : World) (hx : Num x) :
    Calls Try.prog 9 #[.float .f64 x] w fun r w' => r = .returned (.bool (nz x)) ∧ w' = w := by
  rcases Int.lt_trichotomy (key x) 0 with h | h | h
  · rw [nz_of_key (by omega)]
    exact isNegZero9_no x _ w (ord_lt hx num_zero h) rfl
  · rcases key_eq_zero h with rfl | rfl
    · exact isNegZero9_pz w
    · exact isNegZero9_nz w
  · rw [nz_of_key (by omega)]
    exact isNegZero9_no x _ w (ord_gt hx num_zero h) rfl

set_option maxHeartbeats 400000 in
theorem same11_ne (g v : Nat) (o : Ordering) (w : World) (hv : Num v) (ho : FloatKind.f64.format.order g v = some o) (hne : (some o == some Ordering.eq) = false) :
    Calls Try.prog 11 #[.float .f64 g, .float .f64 v] w fun r w' => r = .returned (.bool false) ∧ w' = w := by
  have hN := hv.2
  have hv1 := hv.1
  have hb : (some o != some Ordering.eq) = true := by simpa [bne] using hne
  clear hv hne
  go_enter Try.func11, Try.ntmps11
  go_wp2_with (go_at_call 10; refine (isNaN10 v _ hv1).mono ?_; rintro r w1 ⟨rfl, rfl⟩)
  go_ret
  exact ⟨rfl, rfl⟩

set_option maxHeartbeats 400000 in
theorem same11_eq (g v : Nat) (o : Ordering) (w : World) (hv : Num v) (ho : FloatKind.f64.format.order g v = some .eq) (h0 : FloatKind.f64.format.order v 0 = some o) (hne : (some o == some Ordering.eq) = false) :
    Calls Try.prog 11 #[.float .f64 g, .float .f64 v] w fun r w' => r = .returned (.bool true) ∧ w' = w := by
  have hN := hv.2
  have hv1 := hv.1
  clear hv
  go_enter Try.func11, Try.ntmps11
  go_wp2_with (go_at_call 10; refine (isNaN10 v _ hv1).mono ?_; rintro r w1 ⟨rfl, rfl⟩)
  go_ret
  exact ⟨rfl, rfl⟩

set_option maxHeartbeats 400000 in
theorem same11_zero (g v : Nat) (w : World) (hg : Num g) (hv : Num v) (ho : FloatKind.f64.format.order g v = some .eq) (h0 : FloatKind.f64.format.order v 0 = some .eq) :
    Calls Try.prog 11 #[.float .f64 g, .float .f64 v] w fun r w' => r = .returned (.bool (nz g == nz v)) ∧ w' = w := by
  have hN := hv.2
  have hv1 := hv.1
  have Hg : Hid (Num g) := hg
  have Hv : Hid (Num v) := hv
  clear hg hv
  go_enter Try.func11, Try.ntmps11
  go_wp2_with fail
  refine (isNaN10 v _ hv1).mono ?_
  rintro r w1 ⟨rfl, rfl⟩
  go_wp2_with fail
  refine (isNegZero9 g _ Hg.out).mono ?_
  rintro r w1 ⟨rfl, rfl⟩
  go_wp2_with fail
  refine (isNegZero9 v _ Hv.out).mono ?_
  rintro r w1 ⟨rfl, rfl⟩
  go_wp2_with fail
  go_ret
  exact ⟨rfl, rfl⟩

/-- zzSameFloat on words that are no NaNs: the same word. -/
theorem same11 (g v : Nat) (w : World) (hg : Num g) (hv : Num v) :
    Calls Try.prog 11 #[.float .f64 g, .float .f64 v] w fun r w' => r = .returned (.bool (g == v)) ∧ w' = w := by
  rcases Int.lt_trichotomy (key g) (key v) with h | h | h
  · have : (g == v) = false := by rw [beq_eq_false_iff_ne]; rintro rfl; omega
    rw [this]
    exact same11_ne g v _ w hv (ord_lt hg hv h) rfl
  · rcases Int.lt_trichotomy (key v) 0 with h0 | h0 | h0
    · have : (g == v) = true := by rw [beq_iff_eq]; exact key_inj hg.1 hv.1 h (by omega)
      rw [this]
      exact same11_eq g v _ w hv (ord_eq hg hv h) (ord_lt hv num_zero h0) rfl
    · have : (g == v) = (nz g == nz v) := by
        rcases key_eq_zero h0 with rfl | rfl <;> rcases key_eq_zero (h.trans h0) with rfl | rfl <;> decide
      rw [this]
      exact same11_zero g v w hg hv (ord_eq hg hv h) (ord_eq hv num_zero h0)
    · have : (g == v) = true := by rw [beq_iff_eq]; exact key_inj hg.1 hv.1 h (by omega)
      rw [this]
      exact same11_eq g v _ w hv (ord_eq hg hv h) (ord_gt hv num_zero h0) rfl
  · have : (g == v) = false := by rw [beq_eq_false_iff_ne]; rintro rfl; omega
    rw [this]
    exact same11_ne g v _ w hv (ord_gt hg hv h) rfl

/-- The larger of two words; of the two zeros +0. -/
def mx (a b : Nat) : Nat := if key a < key b then b else if key b < key a then a else if a = 9223372036854775808 then b else a
theorem mx_lt {a b : Nat} (h : key a < key b) : mx a b = b := by unfold mx; rw [if_pos h]
theorem mx_gt {a b : Nat} (h : key b < key a) : mx a b = a := by unfold mx; rw [if_neg (by omega), if_pos h]
theorem mx_nz {a b : Nat} (h : key a = key b) (h2 : a = 9223372036854775808) : mx a b = b := by unfold mx; rw [if_neg (by omega), if_neg (by omega), if_pos h2]
theorem mx_eq {a b : Nat} (h : key a = key b) (h2 : a ≠ 9223372036854775808) : mx a b = a := by unfold mx; rw [if_neg (by omega), if_neg (by omega), if_neg h2]
theorem mx_or (a b : Nat) : mx a b = a ∨ mx a b = b := by
  unfold mx; split
  · exact Or.inr rfl
  · split
    · exact Or.inl rfl
    · split
      · exact Or.inr rfl
      · exact Or.inl rfl
theorem mx_key (a b : Nat) : key a ≤ key (mx a b) ∧ key b ≤ key (mx a b) := by
  unfold mx; split
  · omega
  · split
    · omega
    · split <;> omega
theorem mx_num {a b : Nat} (ha : Num a) (hb : Num b) : Num (mx a b) := by
  rcases mx_or a b with h | h <;> rw [h] <;> assumption

theorem ret_float {a b : Nat} (h : a = b) : Ending.returned (.float .f64 a) = .returned (.float .f64 b) := by rw [h]

set_option maxHeartbeats 400000 in
theorem maxF12 (a b : Nat) (w : World) (ha : Num a) (hb : Num b) :
    Calls Try.prog 12 #[.float .f64 a, .float .f64 b] w fun r w' => r = .returned (.float .f64 (mx a b)) ∧ w' = w := by
  have hNa := ha.2
  have ha1 := ha.1
  have hNb := hb.2
  have hb1 := hb.1
  have Ha : Hid (Num a) := ha
  have Hb : Hid (Num b) := hb
  clear ha hb
  rcases Int.lt_trichotomy (key a) (key b) with h | h | h
  · have ho := ord_lt Ha.out Hb.out h
    have ho' := ord_gt Hb.out Ha.out h
    have Hm : Hid (b = mx a b) := (mx_lt h).symm
    go_enter Try.func12, Try.ntmps12
    go_wp2_with (first | (go_at_call_of 10 (Value.float FloatKind.f64 a); refine (isNaN10 a _ ha1).mono ?_; rintro r w1 ⟨rfl, rfl⟩) | (go_at_call_of 10 (Value.float FloatKind.f64 b); refine (isNaN10 b _ hb1).mono ?_; rintro r w1 ⟨rfl, rfl⟩))
    go_ret
    exact ⟨ret_float Hm.out, rfl⟩
  · have ho := ord_eq Ha.out Hb.out h
    have ho' := ord_eq Hb.out Ha.out h.symm
    by_cases hz : a = 9223372036854775808
    · have Hm : Hid (b = mx a b) := (mx_nz h hz).symm
      have hnz : nz a = true := by subst hz; decide
      clear hz
      go_enter Try.func12, Try.ntmps12
      go_wp2_with (first | (go_at_call_of 10 (Value.float FloatKind.f64 a); refine (isNaN10 a _ ha1).mono ?_; rintro r w1 ⟨rfl, rfl⟩) | (go_at_call_of 10 (Value.float FloatKind.f64 b); refine (isNaN10 b _ hb1).mono ?_; rintro r w1 ⟨rfl, rfl⟩) | (go_at_call 9; refine (isNegZero9 a _ Ha.out).mono ?_; rintro r w1 ⟨rfl, rfl⟩))
      go_ret
      exact ⟨ret_float Hm.out, rfl⟩
    · have Hm : Hid (a = mx a b) := (mx_eq h hz).symm
      have hnz : nz a = false := by unfold nz; rw [beq_eq_false_iff_ne]; exact hz
      clear hz
      go_enter Try.func12, Try.ntmps12
      go_wp2_with (first | (go_at_call_of 10 (Value.float FloatKind.f64 a); refine (isNaN10 a _ ha1).mono ?_; rintro r w1 ⟨rfl, rfl⟩) | (go_at_call_of 10 (Value.float FloatKind.f64 b); refine (isNaN10 b _ hb1).mono ?_; rintro r w1 ⟨rfl, rfl⟩) | (go_at_call 9; refine (isNegZero9 a _ Ha.out).mono ?_; rintro r w1 ⟨rfl, rfl⟩))
      go_ret
      exact ⟨ret_float Hm.out, rfl⟩
  · have ho := ord_gt Ha.out Hb.out h
    have ho' := ord_lt Hb.out Ha.out h
    have Hm : Hid (a = mx a b) := (mx_gt h).symm
    go_enter Try.func12, Try.ntmps12
    go_wp2_with (first | (go_at_call_of 10 (Value.float FloatKind.f64 a); refine (isNaN10 a _ ha1).mono ?_; rintro r w1 ⟨rfl, rfl⟩) | (go_at_call_of 10 (Value.float FloatKind.f64 b); refine (isNaN10 b _ hb1).mono ?_; rintro r w1 ⟨rfl, rfl⟩))
    go_ret
    exact ⟨ret_float Hm.out, rfl⟩
end Go.Proofs.Qxb6605955a
