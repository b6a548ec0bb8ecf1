/-
  The law's readers of the links: zzBytes (both copies), zzLinksBytes, zzSortedByEndpoint.
-/
import Derived.Test.Qxb6614246aB
import Derived.Deep.QuietTactic
import Derived.BigQuiet
namespace Go.Proofs.Qxb6614246a
open Go.RowKit

theorem snoc_le (N : Nat → ByteArray) {k : Nat} (h : ∀ j, j < k → (N j).size ≤ 1048576) (hk : (N k).size ≤ 1048576) : ∀ j, j < k + 1 → (N j).size ≤ 1048576 := fun j hj => by
  by_cases hjk : j < k
  · exact h j hjk
  · obtain rfl : j = k := by omega
    exact hk

/-- It returns a bool; and where that is true, p. -/
def Told (r : Ending) (p : Prop) : Prop := ∃ b, r = .returned (.bool b) ∧ (b = true → p)
theorem ret_bool {b : Bool} {p : Prop} (h : b = true → p) : Told (.returned (.bool b)) p := ⟨b, rfl, h⟩

set_option maxHeartbeats 1000000 in
theorem bytes13 (sv : Value) (n : Nat) (N : Nat → ByteArray) (A E : Nat → Int) (k q : Int) (w : World) (hr : Row w sv n N A E) (hn : n ≤ 9223372036854775807) (hz : ∀ i, i < n → (N i).size ≤ 9223372036854775807) :
    Calls Try.prog 13 #[sv, .int .i64 k, .int .u32 q] w fun r w' => Told r (n ≤ 1048576 ∧ ∀ i, i < n → (N i).size ≤ 1048576) ∧ w' = w := by
  by_cases hn1 : 1048576 < n
  · rcases hr with ⟨rfl, a, cap, rfl⟩ | ⟨g, off, cap, hg, rfl, hp⟩
    · omega
    · clear hp hz
      go_enter Try.func13, Try.ntmps13
      go_wp2_with fail
      go_ret
      exact ⟨ret_bool (by intro h; cases h), rfl⟩
  rcases hr with ⟨rfl, a, cap, rfl⟩ | ⟨g, off, cap, hg, rfl, hp⟩
  · go_enter Try.func13, Try.ntmps13
    go_wp2_with fail
    go_loopw [7, 8] (fun z i wr => z = .int .i64 0 ∧ i = .int .i64 0 ∧ wr = w) (fun _ _ _ => 0)
    case atStart => exact ⟨rfl, rfl, rfl⟩
    case round =>
      obtain ⟨rfl, rfl, rfl⟩ := hrel
      go_wp2_with fail
      go_ret
      exact ⟨ret_bool (by intro _; exact ⟨by omega, fun i hi => absurd hi (Nat.not_lt_zero _)⟩), rfl⟩
  · have Hp : Hid _ := hp
    have Hz : Hid _ := hz
    clear hp hz
    go_enter Try.func13, Try.ntmps13
    go_wp2_with fail
    go_loopw [7, 8] (fun z i wr => ∃ (s : Int) (k : Nat), k ≤ n ∧ 0 ≤ s ∧ s ≤ 1048576 ∧ z = .int .i64 s ∧ i = .int .i64 k ∧ wr = w ∧ ∀ j, j < k → (N j).size ≤ 1048576) (fun _ i _ => n - (intOf i).toNat)
    case atStart => exact ⟨n, 0, by omega, by omega, by omega, rfl, rfl, rfl, fun j hj => absurd hj (Nat.not_lt_zero _)⟩
    case round =>
      obtain ⟨s, k, hk, hs0, hs1, rfl, rfl, hw, hsm⟩ := hrel
      have hw := hw.symm; subst hw
      have Hsm : Hid (∀ j, j < k → (N j).size ≤ 1048576) := hsm
      clear hsm
      by_cases hlt : k < n
      · have c0 := (Hp.out k hlt).1
        have hz := Hz.out k hlt
        go_wp2_with fail
        all_goals first
          | (go_ret; exact ⟨ret_bool (by intro h; cases h), rfl⟩)
          | (go_roundw; (case rel => exact ⟨s + (N k).size, k + 1, by omega, by omega, by omega, rfl, by go_num, by trivial, snoc_le N Hsm.out (by omega)⟩); (case measure => simp [intOf]; omega))
      · obtain rfl : k = n := by omega
        go_wp2_with fail
        go_ret
        exact ⟨ret_bool (by intro _; exact ⟨by omega, Hsm.out⟩), rfl⟩

set_option maxHeartbeats 1000000 in
theorem bytes7 (sv : Value) (n : Nat) (N : Nat → ByteArray) (A E : Nat → Int) (nd : ByteArray) (pe ep q : Int) (w : World) (hr : Row w sv n N A E) (hn : n ≤ 9223372036854775807) (hz : ∀ i, i < n → (N i).size ≤ 9223372036854775807) (hnd : nd.size ≤ 9223372036854775807) :
    Calls Try.prog 7 #[sv, .string nd, .int .u32 pe, .int .u32 ep, .int .u32 q] w fun r w' => Told r (n ≤ 1048576 ∧ ∀ i, i < n → (N i).size ≤ 1048576) ∧ w' = w := by
  by_cases hn1 : 1048576 < n
  · rcases hr with ⟨rfl, a, cap, rfl⟩ | ⟨g, off, cap, hg, rfl, hp⟩
    · omega
    · clear hp hz
      go_enter Try.func7, Try.ntmps7
      go_wp2_with fail
      go_ret
      exact ⟨ret_bool (by intro h; cases h), rfl⟩
  rcases hr with ⟨rfl, a, cap, rfl⟩ | ⟨g, off, cap, hg, rfl, hp⟩
  · go_enter Try.func7, Try.ntmps7
    go_wp2_with fail
    go_loopw [11, 12] (fun z i wr => z = .int .i64 0 ∧ i = .int .i64 0 ∧ wr = w) (fun _ _ _ => 0)
    case atStart => exact ⟨rfl, rfl, rfl⟩
    case round =>
      obtain ⟨rfl, rfl, rfl⟩ := hrel
      go_wp2_with fail
      all_goals (go_ret; exact ⟨ret_bool (by intro _; exact ⟨by omega, fun i hi => absurd hi (Nat.not_lt_zero _)⟩), rfl⟩)
  · have Hp : Hid _ := hp
    have Hz : Hid _ := hz
    clear hp hz
    go_enter Try.func7, Try.ntmps7
    go_wp2_with fail
    go_loopw [11, 12] (fun z i wr => ∃ (s : Int) (k : Nat), k ≤ n ∧ 0 ≤ s ∧ s ≤ 1048576 ∧ z = .int .i64 s ∧ i = .int .i64 k ∧ wr = w ∧ ∀ j, j < k → (N j).size ≤ 1048576) (fun _ i _ => n - (intOf i).toNat)
    case atStart => exact ⟨n, 0, by omega, by omega, by omega, rfl, rfl, rfl, fun j hj => absurd hj (Nat.not_lt_zero _)⟩
    case round =>
      obtain ⟨s, k, hk, hs0, hs1, rfl, rfl, hw, hsm⟩ := hrel
      have hw := hw.symm; subst hw
      have Hsm : Hid (∀ j, j < k → (N j).size ≤ 1048576) := hsm
      clear hsm
      by_cases hlt : k < n
      · have c0 := (Hp.out k hlt).1
        have hz := Hz.out k hlt
        go_wp2_with fail
        all_goals first
          | (go_ret; exact ⟨ret_bool (by intro h; cases h), rfl⟩)
          | (go_roundw; (case rel => exact ⟨s + (N k).size, k + 1, by omega, by omega, by omega, rfl, by go_num, by trivial, snoc_le N Hsm.out (by omega)⟩); (case measure => simp [intOf]; omega))
      · obtain rfl : k = n := by omega
        go_wp2_with fail
        all_goals (go_ret; exact ⟨ret_bool (by intro _; exact ⟨by omega, Hsm.out⟩), rfl⟩)

set_option maxHeartbeats 1000000 in
theorem linksBytes8 (sv : Value) (n : Nat) (N : Nat → ByteArray) (A E : Nat → Int) (w : World) (hr : Row w sv n N A E) (hn : n ≤ 9223372036854775807) (hz : ∀ i, i < n → (N i).size ≤ 9223372036854775807 - 1048600) :
    Calls Try.prog 8 #[sv] w fun r w' => (∃ v : Int, 0 ≤ v ∧ v ≤ 1048577 ∧ r = .returned (.int .i64 v)) ∧ w' = w := by
  by_cases hn1 : 65536 < n
  · rcases hr with ⟨rfl, a, cap, rfl⟩ | ⟨g, off, cap, hg, rfl, hp⟩
    · omega
    · clear hp hz
      go_enter Try.func8, Try.ntmps8
      go_wp2_with fail
      go_ret
      exact ⟨⟨1048577, by omega, by omega, rfl⟩, rfl⟩
  rcases hr with ⟨rfl, a, cap, rfl⟩ | ⟨g, off, cap, hg, rfl, hp⟩
  · go_enter Try.func8, Try.ntmps8
    go_wp2_with fail
    go_loopw [3, 4] (fun z i wr => z = .int .i64 0 ∧ i = .int .i64 0 ∧ wr = w) (fun _ _ _ => 0)
    case atStart => exact ⟨rfl, rfl, rfl⟩
    case round =>
      obtain ⟨rfl, rfl, rfl⟩ := hrel
      go_wp2_with fail
      go_ret
      exact ⟨⟨0, by omega, by omega, rfl⟩, rfl⟩
  · have Hp : Hid _ := hp
    have Hz : Hid _ := hz
    clear hp hz
    go_enter Try.func8, Try.ntmps8
    go_wp2_with fail
    go_loopw [3, 4] (fun z i wr => ∃ (s : Int) (k : Nat), k ≤ n ∧ 0 ≤ s ∧ s ≤ 1048576 ∧ z = .int .i64 s ∧ i = .int .i64 k ∧ wr = w) (fun _ i _ => n - (intOf i).toNat)
    case atStart => exact ⟨0, 0, by omega, by omega, by omega, rfl, rfl, rfl⟩
    case round =>
      obtain ⟨s, k, hk, hs0, hs1, rfl, rfl, rfl⟩ := hrel
      by_cases hlt : k < n
      · have c0 := (Hp.out k hlt).1
        have hz := Hz.out k hlt
        go_wp2_with fail
        all_goals first
          | (go_ret; exact ⟨⟨1048577, by omega, by omega, rfl⟩, rfl⟩)
          | (go_roundw; (case rel => exact ⟨s + (24 + (N k).size), k + 1, by omega, by omega, by omega, rfl, by go_num, by trivial⟩); (case measure => simp [intOf]; omega))
      · go_wp2_with fail
        go_ret
        exact ⟨⟨s, by omega, by omega, rfl⟩, rfl⟩

theorem drewN_two (w : World) (m n : Nat) : (w.drewN m).drewN n = w.drewN (m + n) := by
  unfold World.drewN; simp [Nat.add_assoc]

set_option maxHeartbeats 1000000 in
theorem sorted9 (sv : Value) (n : Nat) (N : Nat → ByteArray) (A E : Nat → Int) (w : World) (hr : Row w sv n N A E) (hn : n ≤ 1048576) :
    Calls Try.prog 9 #[sv] w fun r w' => Told r (Asc E n) ∧ ∃ m, w' = w.drewN m := by
  rcases hr with ⟨rfl, a, cap, rfl⟩ | ⟨g, off, cap, hg, rfl, hp⟩
  · go_enter Try.func9, Try.ntmps9
    go_wp2_with fail
    go_loopw [3] (fun i wr => i = .int .i64 1 ∧ wr = w) (fun _ _ => 0)
    case atStart => exact ⟨rfl, rfl⟩
    case round =>
      obtain ⟨rfl, rfl⟩ := hrel
      go_wp2_with fail
      go_ret
      exact ⟨ret_bool (by intro _ i j _ hj; omega), 0, rfl⟩
  · have Hp : Hid _ := hp
    clear hp
    go_enter Try.func9, Try.ntmps9
    go_wp2_with fail
    go_loopw [3] (fun i wr => ∃ k : Nat, 1 ≤ k ∧ (k ≤ n ∨ k = 1) ∧ i = .int .i64 k ∧ (∀ j, j + 1 < k → E j ≤ E (j + 1)) ∧ ∃ m, wr = w.drewN m) (fun i _ => n - (intOf i).toNat)
    case atStart => exact ⟨1, by omega, by omega, rfl, by intro j hj; omega, 0, rfl⟩
    case round =>
      obtain ⟨k, hk1, hk, rfl, he, m, rfl⟩ := hrel
      have He : Hid _ := he
      clear he
      by_cases hlt : k < n
      · have c0 : w.cell? ⟨g, off + (k - 1) * 3 + 2, none⟩ = some (.int .u32 (E (k - 1))) := (Hp.out (k - 1) (by omega)).2.2
        have c1 : w.cell? ⟨g, off + k * 3 + 2, none⟩ = some (.int .u32 (E k)) := (Hp.out k (by omega)).2.2
        go_wp2_with fail
        go_quiet (fail)
        go_wp2_with fail
        · go_ret
          exact ⟨ret_bool (by intro h; cases h), m + nq, drewN_two w m nq⟩
        · have hle : E (k - 1) ≤ E k := by assumption
          go_roundw
          case rel =>
            refine ⟨k + 1, by omega, by omega, by go_num, ?_, m + nq, rfl⟩
            intro j hj
            by_cases hj' : j + 1 < k
            · exact He.out j hj'
            · obtain rfl : j = k - 1 := by omega
              rw [show k - 1 + 1 = k from by omega]; exact hle
          case measure => simp [intOf]; omega
      · go_wp2_with fail
        go_ret
        exact ⟨ret_bool (by intro _; exact asc_of_step fun i hi => He.out i (by omega)), m, rfl⟩
end Go.Proofs.Qxb6614246a
