/-
  waited: the count goes up by one; the oldest becomes the larger of itself and the seconds.
-/
import Derived.Test.Qxb6605955aW
import Derived.Deep.RegionHeld3
namespace Go.Proofs.Qxb6605955a
open Go.RowKit

theorem read_sign (x : Nat) (hx : Num x) : (FloatKind.f64.decode x).neg = ng x := by
  show (Ieee.double.read x).neg = ng x
  rcases num_cases x hx.2 with h | h
  · obtain ⟨m, s, hr, _⟩ := read_fin x hx.1 h
    rw [hr]; rfl
  · rw [read_inf x hx.1 h]; rfl

theorem run_max_num (ts : Array TypeId) (t : TypeId) (x y : Nat) (hx : Num x) (hy : Num y) (w : World) : (Builtin.max_ ts t #[.float .f64 x, .float .f64 y]).run Try.prog w = .ok (.float .f64 (mx x y)) w := by
  rcases Int.lt_trichotomy (key x) (key y) with h | h | h
  · rw [mx_lt h]
    simp [Builtin.max_, Builtin.max2, ord_lt hx hy h]
  · have e : (if (FloatKind.f64.decode x).neg = true then y else x) = mx x y := by
      rw [read_sign x hx]
      by_cases hz : x = 9223372036854775808
      · rw [mx_nz h hz]; subst hz; rfl
      · rw [mx_eq h hz]
        by_cases hn : ng x = true
        · rw [if_pos hn]
          refine (key_inj hx.1 hy.1 h ?_).symm
          intro h0
          rcases key_eq_zero h0 with rfl | h1
          · exact absurd hn (by decide)
          · exact hz h1
        · rw [if_neg hn]
    rw [← e]
    simp [Builtin.max_, Builtin.max2, ord_eq hx hy h]
  · rw [mx_gt h]
    simp [Builtin.max_, Builtin.max2, ord_gt hx hy h]

/-- The NaN that max draws. -/
def nanW (w : World) (x y : Nat) : Nat := (Question.nanMinMax .f64 true x y).cut (w.tape w.drawn (.nanMinMax .f64 true x y))
theorem nanW_lt (w : World) (x y : Nat) : nanW w x y < 18446744073709551616 := by
  show (_ % 2) * 2 ^ 63 + 0x7ff0000000000000 + 1 + (_ / 2) % (2 ^ 52 - 1) < _
  omega
theorem nanW_nan (w : World) (x y : Nat) : isN (nanW w x y) = true := by
  have h : 9218868437227405312 < nanW w x y % 9223372036854775808 := by
    show _ < ((w.tape w.drawn (.nanMinMax .f64 true x y) % 2) * 2 ^ 63 + 0x7ff0000000000000 + 1 + (w.tape w.drawn (.nanMinMax .f64 true x y) / 2) % (2 ^ 52 - 1)) % _
    generalize w.tape w.drawn (.nanMinMax .f64 true x y) = t
    have h1 : t / 2 % (2 ^ 52 - 1) < 2 ^ 52 - 1 := Nat.mod_lt _ (by decide)
    generalize t / 2 % (2 ^ 52 - 1) = u at *
    have h2 : t % 2 = 0 ∨ t % 2 = 1 := by omega
    rcases h2 with h2 | h2 <;> rw [h2] <;> omega
  unfold isN
  simpa using h
theorem run_max_nan (ts : Array TypeId) (t : TypeId) (x y : Nat) (hx : isN x = true) (w : World) : (Builtin.max_ ts t #[.float .f64 x, .float .f64 y]).run Try.prog w = .ok (.float .f64 (nanW w x y)) w.drew := by
  simp [Builtin.max_, Builtin.max2, ord_nan_left y hx, Question.forced]
  rfl

/-- A float stored into a cell. -/
theorem run_store_float (P : Program) (w : World) (a : Addr) (m : Mode) (k : FloatKind) (x : Nat) : (store a (.float k x) m).run P w = stored P w a (.float k x) m := run_store P w a _ m rfl
attribute [local go_sem] run_store_float

set_option maxHeartbeats 1000000 in
theorem waited29_num (b : Nat) (c d : Int) (o : Nat) (w : World) (hc0 : w.cell? ⟨b, 0, none⟩ = some (.int .i64 c)) (hc1 : w.cell? ⟨b, 1, none⟩ = some (.float .f64 o)) (hf0 : w.frozen? ⟨b, 0, none⟩ = false) (hf1 : w.frozen? ⟨b, 1, none⟩ = false)
    (ho : Num o) (h1 : -9223372036854775808 ≤ d) (h2 : d ≤ 9223372036854775807) :
    Calls Try.prog 29 #[.pointer (some ⟨b, 0, none⟩), .int .i64 d] w fun r w' => r = .returned (.tuple #[]) ∧ w' = ((w.setCell ⟨b, 0, none⟩ (.int .i64 (wrap64 (c + 1)))).setCell ⟨b, 1, none⟩ (.float .f64 (mx o (secW d)))).drew := by
  obtain ⟨_, _, _, hsec⟩ := secW_facts d h1 h2
  have hS : Num (secW d) := hsec.fin.toNum
  have emax := fun ts t => run_max_num ts t o (secW d) ho hS
  have Ho : Hid (Num o) := ho
  clear hsec hS ho
  go_enter Try.func29, Try.ntmps29
  go_wp2_with fail
  go_region_with (go_at_call 33; refine (seconds33 d _ h1 h2).mono ?_; rintro r w1 ⟨rfl, rfl⟩)
  all_goals
    go_wp2
    go_end0
    exact ⟨rfl, rfl⟩

set_option maxHeartbeats 1000000 in
theorem waited29_nan (b : Nat) (c d : Int) (o : Nat) (w : World) (hc0 : w.cell? ⟨b, 0, none⟩ = some (.int .i64 c)) (hc1 : w.cell? ⟨b, 1, none⟩ = some (.float .f64 o)) (hf0 : w.frozen? ⟨b, 0, none⟩ = false) (hf1 : w.frozen? ⟨b, 1, none⟩ = false)
    (ho : isN o = true) (h1 : -9223372036854775808 ≤ d) (h2 : d ≤ 9223372036854775807) :
    Calls Try.prog 29 #[.pointer (some ⟨b, 0, none⟩), .int .i64 d] w fun r w' => r = .returned (.tuple #[]) ∧ ∃ z n, z < 18446744073709551616 ∧ isN z = true ∧ w' = ((w.setCell ⟨b, 0, none⟩ (.int .i64 (wrap64 (c + 1)))).setCell ⟨b, 1, none⟩ (.float .f64 z)).drewN n := by
  have emax := fun ts t => run_max_nan ts t o (secW d) ho
  clear ho
  go_enter Try.func29, Try.ntmps29
  go_wp2_with fail
  go_region_with (go_at_call 33; refine (seconds33 d _ h1 h2).mono ?_; rintro r w1 ⟨rfl, rfl⟩)
  all_goals
    go_wp2
    go_end0
    exact ⟨rfl, _, 2, nanW_lt _ _ _, nanW_nan _ _ _, rfl⟩

set_option maxHeartbeats 400000 in
theorem waited8_num (b : Nat) (c d : Int) (o : Nat) (w : World) (hc0 : w.cell? ⟨b, 0, none⟩ = some (.int .i64 c)) (hc1 : w.cell? ⟨b, 1, none⟩ = some (.float .f64 o)) (hf0 : w.frozen? ⟨b, 0, none⟩ = false) (hf1 : w.frozen? ⟨b, 1, none⟩ = false)
    (ho : Num o) (h1 : -9223372036854775808 ≤ d) (h2 : d ≤ 9223372036854775807) :
    Calls Try.prog 8 #[.pointer (some ⟨b, 0, none⟩), .int .i64 d] w fun r w' => r = .returned (.tuple #[]) ∧ w' = ((w.setCell ⟨b, 0, none⟩ (.int .i64 (wrap64 (c + 1)))).setCell ⟨b, 1, none⟩ (.float .f64 (mx o (secW d)))).drew := by
  go_enter Try.func8, Try.ntmps8
  go_wp2_with fail
  refine (waited29_num b c d o w hc0 hc1 hf0 hf1 ho h1 h2).mono ?_
  rintro r w1 ⟨rfl, rfl⟩
  go_wp2_with fail
  go_end0
  exact ⟨rfl, rfl⟩

set_option maxHeartbeats 400000 in
theorem waited8_nan (b : Nat) (c d : Int) (o : Nat) (w : World) (hc0 : w.cell? ⟨b, 0, none⟩ = some (.int .i64 c)) (hc1 : w.cell? ⟨b, 1, none⟩ = some (.float .f64 o)) (hf0 : w.frozen? ⟨b, 0, none⟩ = false) (hf1 : w.frozen? ⟨b, 1, none⟩ = false)
    (ho : isN o = true) (h1 : -9223372036854775808 ≤ d) (h2 : d ≤ 9223372036854775807) :
    Calls Try.prog 8 #[.pointer (some ⟨b, 0, none⟩), .int .i64 d] w fun r w' => r = .returned (.tuple #[]) ∧ ∃ z n, z < 18446744073709551616 ∧ isN z = true ∧ w' = ((w.setCell ⟨b, 0, none⟩ (.int .i64 (wrap64 (c + 1)))).setCell ⟨b, 1, none⟩ (.float .f64 z)).drewN n := by
  go_enter Try.func8, Try.ntmps8
  go_wp2_with fail
  refine (waited29_nan b c d o w hc0 hc1 hf0 hf1 ho h1 h2).mono ?_
  rintro r w1 ⟨rfl, z, n, hz1, hz2, rfl⟩
  go_wp2_with fail
  go_end0
  exact ⟨rfl, z, n, hz1, hz2, rfl⟩
end Go.Proofs.Qxb6605955a
