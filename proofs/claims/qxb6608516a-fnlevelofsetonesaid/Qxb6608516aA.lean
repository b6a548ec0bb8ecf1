/-
  The callees of FnLevelOfSetOne: zzBytes, ZZnewLevels, levelOf, ZZlevelOf.
-/
import Derived.Test.Qxb6608516aProg
import Derived.WalkKit
import Derived.WalkSpells
import Derived.WalkLawsBesides
import Derived.RowKit3
import Derived.Deep.QuietTactic
import Derived.BigQuiet
namespace Go.Proofs.Qxb6608516a
open Go.RowKit

theorem hid {p : Prop} (h : p) : Hid p := h

set_option maxHeartbeats 400000 in
theorem bytes9 (a0 a1 : Option Addr) (n0 c0 n1 c1 : Nat) (x y : Int) (w : World) (h0 : n0 ≤ 9223372036854775807) (h1 : n1 ≤ 9223372036854775807) :
    Calls Try.prog 9 #[.slice a0 n0 c0, .slice a1 n1 c1, .int .i64 x, .int .i64 y] w fun r w' => (∃ b, r = .returned (.bool b)) ∧ w' = w := by
  go_enter Try.func9, Try.ntmps9
  go_wp2
  all_goals go_ret
  all_goals exact ⟨⟨_, rfl⟩, rfl⟩

set_option maxHeartbeats 400000 in
theorem newLevels10 (g0 n g1 m : Nat) (w : World) :
    Calls Try.prog 10 #[.slice (some ⟨g0, 0, none⟩) n n, .slice (some ⟨g1, 0, none⟩) m m] w fun r w' => r = .returned (.agg #[.slice (some ⟨g0, 0, none⟩) n n, .slice (some ⟨g1, 0, none⟩) m m, .slice none 0 0]) ∧ w' = w.alloc (.cells #[.slice (some ⟨g0, 0, none⟩) n n, .slice (some ⟨g1, 0, none⟩) m m, .slice none 0 0] 27) := by
  go_enter Try.func10, Try.ntmps10
  go_wp2
  exact bodyPost_ret (v := .agg #[.slice (some ⟨g0, 0, none⟩) n n, .slice (some ⟨g1, 0, none⟩) m m, .slice none 0 0]) (by simp [results, Try.results10, go_sem]) rfl ⟨rfl, rfl⟩

set_option maxHeartbeats 400000 in
theorem levelOf27 (g0 n g1 m i j : Nat) (x : Int) (w : World) (hi : i < n) (hj : j < m) (h0 : g0 < w.heap.size) (h1 : g1 < w.heap.size) (c0 : w.cell? ⟨g0, i, none⟩ = some (.int .i64 j)) (c1 : w.cell? ⟨g1, j, none⟩ = some (.int .i64 x)) :
    Calls Try.prog 27 #[.agg #[.slice (some ⟨g0, 0, none⟩) n n, .slice (some ⟨g1, 0, none⟩) m m, .slice none 0 0], .int .i64 i] w fun r w' => r = .returned (.int .i64 x) ∧ Below w.heap.size w w' := by
  have e1 : (0 : Int) ≤ (i : Int) := by omega
  have e2 : (i : Int) < (n : Int) := by omega
  have e3 : (0 : Int) ≤ (j : Int) := by omega
  have e4 : (j : Int) < (m : Int) := by omega
  go_enter Try.func27, Try.ntmps27
  go_wp2_with fail
  go_quiet (fail)
  go_wp2_with fail
  go_ret
  exact ⟨rfl, below_drewN ((Below.refl _ _).alloc (Nat.le_refl _) _) _⟩

set_option maxHeartbeats 400000 in
theorem levelOf11 (g0 n g1 m i j : Nat) (x : Int) (w : World) (hi : i < n) (hj : j < m) (h0 : g0 < w.heap.size) (h1 : g1 < w.heap.size) (c0 : w.cell? ⟨g0, i, none⟩ = some (.int .i64 j)) (c1 : w.cell? ⟨g1, j, none⟩ = some (.int .i64 x)) :
    Calls Try.prog 11 #[.agg #[.slice (some ⟨g0, 0, none⟩) n n, .slice (some ⟨g1, 0, none⟩) m m, .slice none 0 0], .int .i64 i] w fun r w' => r = .returned (.int .i64 x) ∧ Below w.heap.size w w' := by
  go_enter Try.func11, Try.ntmps11
  go_wp2_with fail
  refine (levelOf27 g0 n g1 m i j x _ hi hj (by simp; omega) (by simp; omega) (by rw [World.cell?_alloc_past _ _ _ h0]; exact c0) (by rw [World.cell?_alloc_past _ _ _ h1]; exact c1)).mono ?_
  rintro r w1 ⟨rfl, hb⟩
  go_wp2_with fail
  go_ret
  exact ⟨rfl, ((Below.refl _ _).alloc (Nat.le_refl _) _).trans (hb.mono (by simp))⟩
end Go.Proofs.Qxb6608516a
