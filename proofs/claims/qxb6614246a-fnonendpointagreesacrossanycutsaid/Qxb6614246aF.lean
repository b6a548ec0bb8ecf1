/-
  The law FnOnEndpointAgreesAcrossAnyCut, at a slice whose cells lie in memory.
-/
import Derived.Test.Qxb6614246aE
import Derived.Deep.RegionWith
import Derived.Deep.QuietTactic
import Derived.BigQuiet
namespace Go.Proofs.Qxb6614246a
open Go.RowKit

set_option maxHeartbeats 1000000 in
theorem law4_some (b off n cap : Nat) (N : Nat → ByteArray) (A E : Nat → Int) (k q : Int) (w : World) (hg : b < w.heap.size) (hp : Peers w b off n N A E) (hn : n ≤ 9223372036854775807) (hz : ∀ i, i < n → (N i).size ≤ 9223372036854775807) :
    Calls Try.prog 4 #[.slice (some ⟨b, off, none⟩) n cap, .int .i64 k, .int .u32 q] w fun r w' => r = .returned (.bool true) ∧ Below w.heap.size w w' := by
  have Hp := hid hp
  have Hz := hid hz
  have Hr := hid (show Row w (.slice (some ⟨b, off, none⟩) n cap) n N A E from Or.inr ⟨b, off, cap, hg, rfl, hp⟩)
  clear hp hz
  go_enter Try.func4, Try.ntmps4
  go_wp2_with fail
  refine (bytes13 _ n N A E k q _ Hr.out hn Hz.out).mono ?_
  rintro r w1 ⟨⟨bb, rfl, hb⟩, hw⟩
  have hw := hw.symm; subst hw
  cases bb
  · clear hb
    go_wp2_with fail
    go_ret
    exact ⟨rfl, Below.refl _ _⟩
  obtain ⟨hn1, hz1⟩ := hb rfl
  have Hz1 := hid hz1
  clear hb hn Hz hz1
  go_wp2_with fail
  refine (linksBytes8 _ n N A E _ Hr.out (by omega) (fun i hi => by have := Hz1.out i hi; omega)).mono ?_
  rintro r w1 ⟨⟨v, hv0, hv1, rfl⟩, hw⟩
  have hw := hw.symm; subst hw
  by_cases hv : 1048576 < v
  · go_wp2_with fail
    go_ret
    exact ⟨rfl, Below.refl _ _⟩
  by_cases hk0 : k < 0
  · go_wp2_with fail
    go_ret
    exact ⟨rfl, Below.refl _ _⟩
  by_cases hk1 : (n : Int) < k
  · go_wp2_with fail
    go_ret
    exact ⟨rfl, Below.refl _ _⟩
  obtain ⟨k, rfl⟩ := Int.eq_ofNat_of_zero_le (show 0 ≤ k by omega)
  have hkn : k ≤ n := by omega
  clear hk0 hk1
  go_wp2_with fail
  refine (sorted9 _ n N A E _ Hr.out (by omega)).mono ?_
  rintro r w1 ⟨⟨bb, rfl, hb⟩, m, rfl⟩
  cases bb
  · clear hb
    go_wp2_with fail
    go_ret
    exact ⟨rfl, below_drewN (Below.refl _ _) m⟩
  have Hs := hid (hb rfl)
  clear hb
  go_wp2_with fail
  refine (peers10_some b off n cap N A E _ (by exact hg) (by exact Hp.out) hn1).mono ?_
  rintro r w1 ⟨rfl, hG, hpe, hb1⟩
  generalize hGe : (w.drewN m).heap.size = G at hG hpe ⊢
  have Hpe := hid hpe
  have Hb1 := hid hb1
  clear hpe hb1 hGe
  have Hb1 : Hid (Below w.heap.size w w1) := (below_drewN (Below.refl _ _) m).trans Hb1.out
  go_wp2_with fail
  refine (on12 _ n N A E q _ (Or.inr ⟨G, 0, n, hG, rfl, Hpe.out⟩) (by omega) Hs.out).mono ?_
  rintro r w2 ⟨rfl, hb2⟩
  have Hb2 := hid (Hb1.out.trans (hb2.mono Hb1.out.size))
  have Hpe2 := hid (Hpe.out.below hb2 hG)
  have hG2 : G < w2.heap.size := Nat.lt_of_lt_of_le hG hb2.size
  clear hb2 Hb1 hG Hpe
  go_wp2_with fail
  refine (on12 _ k N A E q _ (Or.inr ⟨G, 0, n, hG2, rfl, fun i hi => Hpe2.out i (by omega)⟩) (by omega) (asc_left Hs.out hkn)).mono ?_
  rintro r w3 ⟨rfl, hb3⟩
  have Hb3 := hid (Hb2.out.trans (hb3.mono Hb2.out.size))
  have Hpe3 := hid (Hpe2.out.below hb3 hG2)
  have hG3 : G < w3.heap.size := Nat.lt_of_lt_of_le hG2 hb3.size
  clear hb3 Hb2 hG2 Hpe2
  have Hp3 := hid (Hp.out.below Hb3.out hg)
  have hg3 : b < w3.heap.size := Nat.lt_of_lt_of_le hg Hb3.out.size
  clear Hp Hr
  by_cases hlt : k < n
  · have hc := has_cut E n k q hkn
    have Hq := hid (show Peers w3 G (k * 3) (n - k) (fun i => N (k + i)) (fun i => A (k + i)) (fun i => E (k + i)) from fun i hi => by
      have := Hpe3.out (k + i) (by omega)
      rw [show 0 + (k + i) * 3 = k * 3 + i * 3 from by omega] at this
      exact this)
    have Hsr := hid (asc_right Hs.out hkn)
    go_wp2_with fail
    refine (on12 _ (n - k) _ _ (fun i => E (k + i)) q _ (Or.inr ⟨G, k * 3, n - k, hG3, rfl, Hq.out⟩) (by omega) Hsr.out).mono ?_
    rintro r w4 ⟨rfl, hb4⟩
    have Hb4 := hid (Hb3.out.trans (hb4.mono Hb3.out.size))
    have Hpe4 := hid (Hpe3.out.below hb4 hG3)
    have Hq4 := hid (Hq.out.below hb4 hG3)
    have Hp4 := hid (Hp3.out.below hb4 hg3)
    have hg4 : b < w4.heap.size := Nat.lt_of_lt_of_le hg3 hb4.size
    have hG4 : G < w4.heap.size := Nat.lt_of_lt_of_le hG3 hb4.size
    clear hb4 Hb3 hG3 Hpe3 Hq Hp3
    have c2 := (Hp4.out k hlt).2.2
    have ht : has (fun i => E (k + i)) (n - k) (E k) = true := has_true 0 (by omega) rfl
    have hne : n ≠ k := by omega
    have Hqd := hid (show Row w4.drew (.slice (some ⟨G, k * 3, none⟩) (n - k) (n - k)) (n - k) (fun i => N (k + i)) (fun i => A (k + i)) (fun i => E (k + i)) from Or.inr ⟨G, k * 3, n - k, hG4, rfl, Hq4.out⟩)
    clear Hq4
    go_wp2_with fail
    all_goals
      go_region_held3 (fun wx => wx.cell? ⟨b, off + k * 3 + 2, none⟩ = some (.int .u32 (E k))) (simp [*, go_sem])
        (first | (go_at_call 12; refine (on12 _ (n - k) _ _ (fun i => E (k + i)) (E k) w4.drew Hqd.out (by omega) Hsr.out).mono ?_; rintro r w5 ⟨rfl, hb5⟩; have c5 := (hb5.cell (p := ⟨b, off + k * 3 + 2, none⟩) hg4).trans c2))
      have Hb5 := hid (Hb4.out.drew.trans (hb5.mono Hb4.out.drew.size))
      have Hp5 := hid (Peers.below (w := w4.drew) (show Peers w4.drew b off n N A E from Hp4.out) hb5 hg4)
      have Hpe5 := hid (Peers.below (w := w4.drew) (show Peers w4.drew G 0 n N A E from Hpe4.out) hb5 hG4)
      have hgx : b < w5.heap.size := Nat.lt_of_lt_of_le hg4 hb5.size
      have hGx : G < w5.heap.size := Nat.lt_of_lt_of_le hG4 hb5.size
      clear hb5 c5 c2 ht Hqd hc
      by_cases hpos : 0 < k
      · obtain ⟨j, hj⟩ : ∃ j, k = j + 1 := ⟨k - 1, by omega⟩
        have c6 : w5.cell? ⟨b, off + j * 3 + 2, none⟩ = some (.int .u32 (E j)) := ((Hp5).out j (by omega)).2.2
        have hi1 : j < k := by omega
        have hi2 : j < n := by omega
        have hsub : (k : Int) - 1 = (j : Int) := by omega
        have hw1 : IntKind.i64.wrap (j : Int) = (j : Int) := by rw [IntKind.wrap_i64]; omega
        have ht6 : has E k (E j) = true := has_true j hi1 rfl
        have Hl6 := hid (show Row w5.drew (.slice (some ⟨G, 0, none⟩) k n) k N A E from Or.inr ⟨G, 0, n, hGx, rfl, fun i hi => (Hpe5).out i (by omega)⟩)
        have Hs6 := hid (asc_left Hs.out hkn)
        clear hj
        go_wp2_with fail
        go_region_held3 (fun wx => wx.cell? ⟨b, off + j * 3 + 2, none⟩ = some (.int .u32 (E j))) (simp [*, go_sem])
          (first | (go_at_call 12; refine (on12 _ k _ _ E (E j) w5.drew Hl6.out (by omega) Hs6.out).mono ?_; rintro r w6 ⟨rfl, hb6⟩; have c7 := (hb6.cell (p := ⟨b, off + j * 3 + 2, none⟩) hgx).trans c6))
        go_wp2_with fail
        go_ret
        exact ⟨rfl, (Hb5).out.drew.trans (hb6.mono (Hb5).out.drew.size)⟩
      · obtain hk0 : k = 0 := by omega
        have hd : decide ((0 : Int) < (k : Int)) = false := by simp; omega
        go_wp2_with fail
        go_quiet (fail)
        go_wp2_with fail
        go_ret
        exact ⟨rfl, below_drewN (Hb5).out nq⟩
  · obtain rfl : k = n := by omega
    have h0 : has E 0 q = false := has_false fun i hi => absurd hi (Nat.not_lt_zero _)
    go_wp2_with fail
    refine (on12 _ 0 N A E q _ (Or.inl ⟨rfl, _, _, rfl⟩) (by omega) (fun i j _ hj => absurd hj (Nat.not_lt_zero _))).mono ?_
    rintro r w4 ⟨rfl, hb4⟩
    have Hb4 := hid (Hb3.out.trans (hb4.mono Hb3.out.size))
    have Hpe4 := hid (Hpe3.out.below hb4 hG3)
    have Hp4 := hid (Hp3.out.below hb4 hg3)
    have hg4 : b < w4.heap.size := Nat.lt_of_lt_of_le hg3 hb4.size
    have hG4 : G < w4.heap.size := Nat.lt_of_lt_of_le hG3 hb4.size
    clear hb4 Hb3 hG3 Hpe3 Hp3
    go_wp2_with fail
    all_goals
      go_quiet (fail)
      have Hb5 := hid (below_drewN Hb4.out nq)
      have Hp5 := hid (show Peers (w4.drewN nq) b off k N A E from Hp4.out)
      have Hpe5 := hid (show Peers (w4.drewN nq) G 0 k N A E from Hpe4.out)
      have hgx : b < (w4.drewN nq).heap.size := hg4
      have hGx : G < (w4.drewN nq).heap.size := hG4
      by_cases hpos : 0 < k
      · obtain ⟨j, hj⟩ : ∃ j, k = j + 1 := ⟨k - 1, by omega⟩
        have c6 : w4.cell? ⟨b, off + j * 3 + 2, none⟩ = some (.int .u32 (E j)) := ((Hp5).out j (by omega)).2.2
        have hi1 : j < k := by omega
        have hi2 : j < k := by omega
        have hsub : (k : Int) - 1 = (j : Int) := by omega
        have hw1 : IntKind.i64.wrap (j : Int) = (j : Int) := by rw [IntKind.wrap_i64]; omega
        have ht6 : has E k (E j) = true := has_true j hi1 rfl
        have Hl6 := hid (show Row (w4.drewN nq).drew (.slice (some ⟨G, 0, none⟩) k k) k N A E from Or.inr ⟨G, 0, k, hGx, rfl, fun i hi => (Hpe5).out i (by omega)⟩)
        have Hs6 := hid (asc_left Hs.out (Nat.le_refl k))
        clear hj
        go_wp2_with fail
        go_region_held3 (fun wx => wx.cell? ⟨b, off + j * 3 + 2, none⟩ = some (.int .u32 (E j))) (simp [*, go_sem])
          (first | (go_at_call 12; refine (on12 _ k _ _ E (E j) (w4.drewN nq).drew Hl6.out (by omega) Hs6.out).mono ?_; rintro r w6 ⟨rfl, hb6⟩; have c7 := (hb6.cell (p := ⟨b, off + j * 3 + 2, none⟩) hgx).trans c6))
        go_wp2_with fail
        go_ret
        exact ⟨rfl, (Hb5).out.drew.trans (hb6.mono (Hb5).out.drew.size)⟩
      · obtain hk0 : k = 0 := by omega
        have hd : decide ((0 : Int) < (k : Int)) = false := by simp; omega
        go_wp2_with fail
        go_quiet (fail)
        go_wp2_with fail
        go_ret
        exact ⟨rfl, below_drewN (Hb5).out nq⟩
end Go.Proofs.Qxb6614246a
