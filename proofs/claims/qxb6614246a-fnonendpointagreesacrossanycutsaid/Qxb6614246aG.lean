/-
  The law FnOnEndpointAgreesAcrossAnyCut at an empty slice, nil or not; and at every slice.
-/
import Derived.Test.Qxb6614246aF
namespace Go.Proofs.Qxb6614246a
open Go.RowKit

theorem asc_zero (E : Nat → Int) : Asc E 0 := fun _ _ _ hj => absurd hj (Nat.not_lt_zero _)
theorem has_zero (E : Nat → Int) (q : Int) : has E 0 q = false := has_false fun _ hi => absurd hi (Nat.not_lt_zero _)

set_option maxHeartbeats 1000000 in
theorem law4_empty (a : Option Addr) (cap : Nat) (k q : Int) (w : World) :
    Calls Try.prog 4 #[.slice a 0 cap, .int .i64 k, .int .u32 q] w fun r w' => r = .returned (.bool true) ∧ Below w.heap.size w w' := by
  have Hr := hid (fun w : World => show Row w (.slice a 0 cap) 0 (fun _ => ByteArray.empty) (fun _ => 0) (fun _ => 0) from Or.inl ⟨rfl, a, cap, rfl⟩)
  have h0 := has_zero (fun _ => 0) q
  go_enter Try.func4, Try.ntmps4
  go_wp2_with fail
  refine (bytes13 _ 0 _ _ _ k q _ (Hr.out _) (by omega) (fun i hi => absurd hi (Nat.not_lt_zero _))).mono ?_
  rintro r w1 ⟨⟨bb, rfl, hb⟩, hw⟩
  have hw := hw.symm; subst hw
  clear hb
  cases bb
  · go_wp2_with fail
    go_ret
    exact ⟨rfl, Below.refl _ _⟩
  go_wp2_with fail
  refine (linksBytes8 _ 0 _ _ _ _ (Hr.out _) (by omega) (fun i hi => absurd hi (Nat.not_lt_zero _))).mono ?_
  rintro r w1 ⟨⟨v, hv0, hv1, rfl⟩, hw⟩
  have hw := hw.symm; subst hw
  by_cases hv : 1048576 < v
  · go_wp2_with fail
    go_ret
    exact ⟨rfl, Below.refl _ _⟩
  by_cases hk0 : k < 0
  · go_wp2_with fail
    go_ret
    exact ⟨rfl, Below.refl _ _⟩
  by_cases hk1 : 0 < k
  · go_wp2_with fail
    go_ret
    exact ⟨rfl, Below.refl _ _⟩
  obtain rfl : k = 0 := by omega
  clear hk0 hk1
  go_wp2_with fail
  refine (sorted9 _ 0 _ _ _ _ (Hr.out _) (by omega)).mono ?_
  rintro r w1 ⟨⟨bb, rfl, hb⟩, m, rfl⟩
  clear hb
  cases bb
  · go_wp2_with fail
    go_ret
    exact ⟨rfl, below_drewN (Below.refl _ _) m⟩
  go_wp2_with fail
  refine (peers10 _ 0 _ _ _ _ (Hr.out _) (by omega)).mono ?_
  rintro r w1 ⟨⟨sv', rfl, hm⟩, hb1⟩
  have Hb1 : Hid (Below w.heap.size w w1) := (below_drewN (Below.refl _ _) m).trans hb1
  clear hb1
  obtain ⟨a', ha', rfl⟩ : ∃ a', (a' = none ∨ ∃ g, a' = some (⟨g, 0, none⟩ : Addr)) ∧ sv' = .slice a' 0 0 := by
    rcases hm with ⟨_, a', h1, h2⟩ | ⟨g, _, h2, _⟩
    · exact ⟨a', h1, h2⟩
    · exact ⟨_, Or.inr ⟨g, rfl⟩, h2⟩
  clear hm
  rcases ha' with rfl | ⟨g, rfl⟩
  all_goals
    go_wp2_with fail
    refine (on12 _ 0 (fun _ => ByteArray.empty) (fun _ => 0) (fun _ => 0) q _ (Or.inl ⟨rfl, _, _, rfl⟩) (by omega) (asc_zero _)).mono ?_
    rintro r w2 ⟨rfl, hb2⟩
    have Hb2 := hid (Hb1.out.trans (hb2.mono Hb1.out.size))
    clear hb2 Hb1
    go_wp2_with fail
    refine (on12 _ 0 (fun _ => ByteArray.empty) (fun _ => 0) (fun _ => 0) q _ (Or.inl ⟨rfl, _, _, rfl⟩) (by omega) (asc_zero _)).mono ?_
    rintro r w3 ⟨rfl, hb3⟩
    have Hb3 := hid (Hb2.out.trans (hb3.mono Hb2.out.size))
    clear hb3 Hb2
    go_wp2_with fail
    refine (on12 _ 0 (fun _ => ByteArray.empty) (fun _ => 0) (fun _ => 0) q _ (Or.inl ⟨rfl, _, _, rfl⟩) (by omega) (asc_zero _)).mono ?_
    rintro r w4 ⟨rfl, hb4⟩
    have Hb4 := hid (Hb3.out.trans (hb4.mono Hb3.out.size))
    clear hb4 Hb3
    go_wp2_with fail
    go_quiet (fail)
    go_wp2_with fail
    go_quiet (fail)
    go_wp2_with fail
    go_ret
    exact ⟨rfl, below_drewN (below_drewN Hb4.out _) _⟩

theorem law4 (sv : Value) (n : Nat) (N : Nat → ByteArray) (A E : Nat → Int) (k q : Int) (w : World) (hr : Row w sv n N A E) (hn : n ≤ 9223372036854775807) (hz : ∀ i, i < n → (N i).size ≤ 9223372036854775807) :
    Calls Try.prog 4 #[sv, .int .i64 k, .int .u32 q] w fun r w' => r = .returned (.bool true) ∧ Below w.heap.size w w' := by
  rcases hr with ⟨rfl, a, cap, rfl⟩ | ⟨g, off, cap, hg, rfl, hp⟩
  · exact law4_empty a cap k q w
  · exact law4_some g off n cap N A E k q w hg hp hn hz
end Go.Proofs.Qxb6614246a
