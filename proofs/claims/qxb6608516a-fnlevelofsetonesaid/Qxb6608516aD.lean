/-
  The law FnLevelOfSetOne, whatever the slices: no category, no level, and the main case.
-/
import Derived.Test.Qxb6608516aC
namespace Go.Proofs.Qxb6608516a
open Go.RowKit

set_option maxRecDepth 100000 in
set_option maxHeartbeats 4000000 in
/-- No category: c is out of range. -/
theorem law_none (a0 a1 : Option Addr) (cap0 m cap1 : Nat) (c v : Int) (w : World) (hm : m ≤ 9223372036854775807) :
    Calls Try.prog 4 #[.slice a0 0 cap0, .slice a1 m cap1, .int .i64 c, .int .i64 v] w fun r w' => r = .returned (.bool true) ∧ Below w.heap.size w w' := by
  go_enter Try.func4, Try.ntmps4
  go_wp2_with fail
  refine (bytes9 _ _ 0 _ m _ c v _ (Nat.zero_le _) hm).mono ?_
  rintro r w1 ⟨⟨bb, rfl⟩, hw⟩
  have hw := hw.symm; subst hw
  cases bb
  · go_wp2_with fail
    go_ret
    exact ⟨rfl, Below.refl _ _⟩
  by_cases hm1 : 32768 < m
  · go_wp2_with fail
    go_ret
    exact ⟨rfl, Below.refl _ _⟩
  by_cases hc0 : c < 0
  · go_wp2_with fail
    go_ret
    exact ⟨rfl, Below.refl _ _⟩
  obtain ⟨c, rfl⟩ := Int.eq_ofNat_of_zero_le (show 0 ≤ c by omega)
  clear hc0
  go_wp2_with fail
  go_ret
  exact ⟨rfl, Below.refl _ _⟩

/-- copy(made, xs) where xs is empty. -/
theorem copy_zero (p : Addr) (cap : Nat) (w : World) :
    ∃ w2, (∀ ty, (Builtin.copy_ #[24, 24] ty #[.slice (some ⟨w.heap.size, 0, none⟩) 0 0, .slice (some p) 0 cap]).run Try.prog (w.alloc (mkI 0)) = .ok (goInt 0) w2) ∧ Below w.heap.size w w2 := by
  have hg : (w.alloc (mkI 0)).heap[w.heap.size]? = some (.cells (madeCells #[.int .i64 0] 0) 3 (0, 0)) := (MapKept.heap_alloc w (mkI 0)).1
  have hrun := fun ty => run_copy_row (P := Try.prog) (w.alloc (mkI 0)) 24 24 ty 3 w.heap.size 0 0 0 p 0 cap (madeCells #[.int .i64 0] 0) 3 [] Try.underlying24 size3 hg rfl
    (fun j v hj => by simp at hj) (Nat.zero_le _) (fun v hv => by cases hv)
  exact ⟨_, hrun, below_setRow ((Below.refl _ _).alloc (Nat.le_refl _) _) (Nat.le_refl _) _⟩

set_option maxRecDepth 100000 in
set_option maxHeartbeats 4000000 in
/-- No level: the first component is out of range. -/
theorem law_zero (b0 o0 n cap0 : Nat) (a1 : Option Addr) (cap1 : Nat) (C : Nat → Int) (c v : Int) (w : World)
    (hn : n ≤ 9223372036854775807) (hn0 : 0 < n)
    (hb0 : b0 < w.heap.size) (hC : ∀ i, i < n → w.cell? ⟨b0, o0 + i, none⟩ = some (.int .i64 (C i))) :
    Calls Try.prog 4 #[.slice (some ⟨b0, o0, none⟩) n cap0, .slice a1 0 cap1, .int .i64 c, .int .i64 v] w fun r w' => r = .returned (.bool true) ∧ Below w.heap.size w w' := by
  have HC := hid hC
  clear hC
  go_enter Try.func4, Try.ntmps4
  go_wp2_with fail
  refine (bytes9 _ _ n _ 0 _ c v _ hn (Nat.zero_le _)).mono ?_
  rintro r w1 ⟨⟨bb, rfl⟩, hw⟩
  have hw := hw.symm; subst hw
  cases bb
  · go_wp2_with fail
    go_ret
    exact ⟨rfl, Below.refl _ _⟩
  by_cases hn1 : 32768 < n
  · go_wp2_with fail
    go_ret
    exact ⟨rfl, Below.refl _ _⟩
  by_cases hc0 : c < 0
  · go_wp2_with fail
    go_ret
    exact ⟨rfl, Below.refl _ _⟩
  obtain ⟨c, rfl⟩ := Int.eq_ofNat_of_zero_le (show 0 ≤ c by omega)
  clear hc0
  by_cases hc1 : n ≤ c
  · have hc1' : (n : Int) ≤ (c : Int) := by omega
    go_wp2_with fail
    go_ret
    exact ⟨rfl, Below.refl _ _⟩
  by_cases hv0 : v < 0
  · go_wp2_with fail
    go_ret
    exact ⟨rfl, Below.refl _ _⟩
  have hcn : c < n := by omega
  have hv : 0 ≤ v := by omega
  clear hc1 hv0
  have hmk0 := run_mkI n (by omega)
  have hmk1 := run_mkI 0 (by omega)
  have hmk2 := fun w => (show (Instr.makeSlice 24 (.int .i64 0) (.int .i64 0)).run Try.prog w = .ok (.slice (some ⟨w.heap.size, 0, none⟩) 0 0) (w.alloc (mkI 0)) from hmk1 w)
  obtain ⟨W1, hcp0, bel1, own1⟩ := copy_all b0 o0 n cap0 C w hb0 HC.out
  have Bel1 := hid bel1
  have Own1 := hid own1
  clear bel1 own1
  have hn0' : (0 : Int) < (n : Int) := by omega
  cases a1 with
  | none =>
    clear hmk1 hmk2
    go_wp2_with fail
    clear hmk0 hcp0
    obtain ⟨c0, _⟩ := Own1.out.2 0 hn0
    have og := Own1.out.1
    go_loopw [11] (fun i wr => wr = W1 ∧ i = .int .i64 0) (fun i _ => 0)
    case atStart => exact ⟨rfl, rfl⟩
    case round =>
      obtain ⟨hw, rfl⟩ := hrel
      have hw := hw.symm; subst hw
      by_cases h1 : C 0 < 0
      · go_wp2_with fail
        go_ret
        exact ⟨rfl, Bel1.out⟩
      · have h2 : 0 ≤ C 0 := by omega
        go_wp2_with fail
        go_ret
        exact ⟨rfl, Bel1.out⟩
  | some p =>
    obtain ⟨W2, hcp1, bel2⟩ := copy_zero p cap1 W1
    have Bel2 := hid bel2
    clear bel2
    go_wp2_with fail
    clear hmk0 hcp0 hmk1 hmk2 hcp1
    obtain ⟨og, oc⟩ := Own1.out.below Bel2.out Own1.out.1
    obtain ⟨c0, _⟩ := oc 0 hn0
    clear oc
    go_loopw [11] (fun i wr => wr = W2 ∧ i = .int .i64 0) (fun i _ => 0)
    case atStart => exact ⟨rfl, rfl⟩
    case round =>
      obtain ⟨hw, rfl⟩ := hrel
      have hw := hw.symm; subst hw
      by_cases h1 : C 0 < 0
      · go_wp2_with fail
        go_ret
        exact ⟨rfl, Bel1.out.trans (Bel2.out.mono Bel1.out.size)⟩
      · have h2 : 0 ≤ C 0 := by omega
        go_wp2_with fail
        go_ret
        exact ⟨rfl, Bel1.out.trans (Bel2.out.mono Bel1.out.size)⟩
end Go.Proofs.Qxb6608516a
