/-
  The law FnOnEndpointInsertedLinkIsFoundAndNothingElseChanges.
-/
import Derived.Test.Qxb6614246aE
import Derived.Deep.DeepCutAuto
import Derived.Deep.CutBlock
namespace Go.Proofs.Qxb6614246a
open Go.RowKit

theorem Row.at {w : World} {a : Option Addr} {n cap : Nat} {N : Nat → ByteArray} {A E : Nat → Int} (h : Row w (.slice a n cap) n N A E) (hn : 0 < n) :
    ∃ b off, a = some ⟨b, off, none⟩ ∧ b < w.heap.size ∧ Peers w b off n N A E := by
  rcases h with ⟨h0, _⟩ | ⟨g, off, c, hg, h1, h2⟩
  · omega
  · simp at h1
    exact ⟨g, off, h1.1, hg, h2⟩

theorem peers_put' {w : World} {G k m : Nat} {N : Nat → ByteArray} {A E : Nat → Int} {s : ByteArray} {x y : Int} (h : Peers w G 0 k N A E) (hr : Room w G m) (hk : k * 3 + 2 < m) (hs : s = N k) (hx : x = A k) (hy : y = E k) :
    Peers (put3 w G (k * 3) s x y) G 0 (k + 1) N A E := by
  subst hs hx hy
  exact peers_put h hr hk

set_option maxHeartbeats 2000000 in
theorem law3 (a : Option Addr) (n cap : Nat) (N : Nat → ByteArray) (A E : Nat → Int) (nd : ByteArray) (pe ep q : Int) (w : World) (hr : Row w (.slice a n cap) n N A E) (hn : n ≤ 9223372036854775807) (hz : ∀ i, i < n → (N i).size ≤ 9223372036854775807) (hnd : nd.size ≤ 9223372036854775807) :
    Calls Try.prog 3 #[.slice a n cap, .string nd, .int .u32 pe, .int .u32 ep, .int .u32 q] w fun r w' => r = .returned (.bool true) ∧ Below w.heap.size w w' := by
  have Hr := hid hr
  have Hz := hid hz
  clear hr hz
  go_enter Try.func3, Try.ntmps3
  go_wp2_with fail
  refine (bytes7 _ n N A E nd pe ep q _ Hr.out hn Hz.out hnd).mono ?_
  rintro r w1 ⟨⟨bb, rfl, hb⟩, hw⟩
  have hw := hw.symm; subst hw
  cases bb
  · clear hb
    go_wp2_with fail
    go_ret
    exact ⟨rfl, Below.refl _ _⟩
  obtain ⟨hn1, hz1⟩ := hb rfl
  have Hz1 := hid hz1
  clear hb hn Hz hz1
  by_cases hnd1 : 1048576 < nd.size
  · go_wp2_with fail
    go_ret
    exact ⟨rfl, Below.refl _ _⟩
  go_wp2_with fail
  refine (linksBytes8 _ n N A E _ Hr.out (by omega) (fun i hi => by have := Hz1.out i hi; omega)).mono ?_
  rintro r w1 ⟨⟨v, hv0, hv1, rfl⟩, hw⟩
  have hw := hw.symm; subst hw
  by_cases hv : 1048552 - (nd.size : Int) < v
  · go_wp2_with fail
    go_ret
    exact ⟨rfl, Below.refl _ _⟩
  go_wp2_with fail
  refine (sorted9 _ n N A E _ Hr.out (by omega)).mono ?_
  rintro r w1 ⟨⟨bb, rfl, hb⟩, m, rfl⟩
  cases bb
  · clear hb
    go_wp2_with fail
    go_ret
    exact ⟨rfl, below_drewN (Below.refl _ _) m⟩
  have Hs := hid (hb rfl)
  clear hb
  go_wp2_with fail
  refine (peers10 _ n N A E _ (Hr.out.below (below_drewN (Below.refl _ _) m)) (by omega)).mono ?_
  rintro r w2 ⟨⟨sv', rfl, hm⟩, hb1⟩
  have Hm := hid hm.row
  have Hb1 : Hid (Below w.heap.size w w2) := (below_drewN (Below.refl _ _) m).trans hb1
  have Hr2 := hid (Row.below Hr.out Hb1.out)
  clear hm hb1 Hr
  have hmk : ∀ w : World, (Instr.makeSlice 27 (.int .i64 ((n : Int) + 1)) (.int .i64 ((n : Int) + 1))).run Try.prog w = .ok (.slice (some ⟨w.heap.size, 0, none⟩) (n + 1) (n + 1)) (w.alloc (mkObj (n + 1))) := fun w => run_mk (n + 1) (by omega) w
  go_upto_block 0 with fail
  go_cut [12, 13] (fun p i wr => ∃ P0 : Nat, P0 ≤ n ∧ p = .int .i64 P0 ∧ (∀ j, j < P0 → E j ≤ ep) ∧ (∀ j, P0 ≤ j → j < n → ep ≤ E j) ∧ wr = w2)
  case first =>
    clear hmk
    go_wp2_with fail
    go_loopw [12, 13] (fun p i wr => ∃ k : Nat, k ≤ n ∧ p = .int .i64 n ∧ i = .int .i64 k ∧ (∀ j, j < k → E j ≤ ep) ∧ wr = w2) (fun _ i _ => n - (intOf i).toNat)
    case atStart => exact ⟨0, by omega, rfl, rfl, fun j hj => absurd hj (Nat.not_lt_zero _), rfl⟩
    case round =>
      obtain ⟨k, hk, rfl, rfl, hlo, hw⟩ := hrel
      have hw := hw.symm; subst hw
      have Hlo := hid hlo
      clear hlo
      by_cases hlt : k < n
      · obtain ⟨b, off, rfl, hg, hp⟩ := Hr2.out.at (by omega)
        have c2 := (hp k hlt).2.2
        clear hp
        by_cases he : ep < E k
        · go_wp2_with fail
          go_meet
          case rel =>
            refine ⟨k, hk, rfl, Hlo.out, fun j hj hjn => ?_, rfl⟩
            have := Hs.out k j hj hjn
            omega
        · go_wp2_with fail
          go_roundw
          case rel =>
            refine ⟨k + 1, by omega, rfl, by go_num, fun j hj => ?_, by trivial⟩
            by_cases hjk : j < k
            · exact Hlo.out j hjk
            · obtain rfl : j = k := by omega
              omega
          case measure => simp [intOf]; omega
      · obtain rfl : k = n := by omega
        go_wp2_with fail
        go_meet
        case rel => exact ⟨k, Nat.le_refl _, rfl, Hlo.out, fun j hj hjn => absurd hjn (by omega), rfl⟩
  case rest =>
    obtain ⟨P0, hP, rfl, hlo, hhi, hw⟩ := hcut
    have hw := hw.symm; subst hw
    have Hi := hid (asc_ins Hs.out hP hlo hhi)
    clear hlo hhi
    go_wp2_with fail
    clear hmk
    go_loopw [15] (fun i wr => ∃ k : Nat, k ≤ P0 ∧ i = .int .i64 k ∧ w2.heap.size < wr.heap.size ∧ Below w2.heap.size w2 wr ∧ Room wr w2.heap.size ((n + 1) * 3) ∧ Peers wr w2.heap.size 0 k (ins N P0 nd) (ins A P0 pe) (ins E P0 ep)) (fun i _ => P0 - (intOf i).toNat)
    case atStart => exact ⟨0, by omega, rfl, by simp, (Below.refl _ _).alloc (Nat.le_refl _) _, mk_room (n + 1) w2, fun i hi => absurd hi (Nat.not_lt_zero _)⟩
    case round =>
      obtain ⟨k, hk, rfl, hsz, hb, hro, hpe⟩ := hrel
      have Hro := hid hro
      have Hpe := hid hpe
      have Hb := hid hb
      clear hro hpe hb
      by_cases hlt : k < P0
      · obtain ⟨b, off, rfl, hg, hp⟩ := Hr2.out.at (by omega)
        obtain ⟨⟨v0, d0⟩, f0⟩ := Hro.out (k * 3) (by omega)
        obtain ⟨⟨v1, d1⟩, f1⟩ := Hro.out (k * 3 + 1) (by omega)
        obtain ⟨⟨v2, d2⟩, f2⟩ := Hro.out (k * 3 + 2) (by omega)
        obtain ⟨c0, c1, c2⟩ := (hp.below Hb.out hg) k (by omega)
        have hg' : b < wr.heap.size := Nat.lt_trans hg hsz
        have hkn : k < n := by omega
        have hkn1 : (k : Int) < (n : Int) + 1 := by omega
        clear hp
        go_wp2_with fail
        go_region_held3 (fun wx => wx.cell? ⟨b, off + k * 3, none⟩ = some (.string (N k)) ∧ wx.cell? ⟨b, off + k * 3 + 1, none⟩ = some (.int .u32 (A k)) ∧ wx.cell? ⟨b, off + k * 3 + 2, none⟩ = some (.int .u32 (E k))) (simp [*, go_sem, World.cell?_alloc_past])
          (first | (go_at_call 11; refine (newPeer11 _ _ _ _).mono ?_; rintro r w1 ⟨rfl, rfl⟩))
        go_wp2_with fail
        go_roundw
        case rel =>
          have hs3 : w2.heap.size < (put3 wr w2.heap.size (k * 3) (N k) (A k) (E k)).heap.size := by rw [put3_size]; exact hsz
          refine ⟨k + 1, by omega, by go_num, ?_, ?_, ?_, ?_⟩
          · simp; omega
          · exact ((put3_below Hb.out (Nat.le_refl _)).alloc (by rw [put3_size]; omega) _).drew
          · exact room_step (put3_room Hro.out (by omega)) hs3 _
          · exact peers_step (peers_put' Hpe.out Hro.out (by omega) (ins_lt _ _ _ hlt).symm (ins_lt _ _ _ hlt).symm (ins_lt _ _ _ hlt).symm) hs3 _
        case measure => simp [intOf]; omega
      · obtain rfl : k = P0 := by omega
        obtain ⟨⟨v0, d0⟩, f0⟩ := Hro.out (k * 3) (by omega)
        obtain ⟨⟨v1, d1⟩, f1⟩ := Hro.out (k * 3 + 1) (by omega)
        obtain ⟨⟨v2, d2⟩, f2⟩ := Hro.out (k * 3 + 2) (by omega)
        have hkn1 : k < n + 1 := by omega
        go_wp2_with (go_at_call 11; refine (newPeer11 nd pe ep _).mono ?_; rintro r w1 ⟨rfl, rfl⟩)
        have hs4 : w2.heap.size < (put3 wr w2.heap.size (k * 3) nd pe ep).heap.size := by rw [put3_size]; exact hsz
        go_loopw [16] (fun i wr => ∃ j : Nat, k ≤ j ∧ j ≤ n ∧ i = .int .i64 j ∧ w2.heap.size < wr.heap.size ∧ Below w2.heap.size w2 wr ∧ Room wr w2.heap.size ((n + 1) * 3) ∧ Peers wr w2.heap.size 0 (j + 1) (ins N k nd) (ins A k pe) (ins E k ep)) (fun i _ => n - (intOf i).toNat)
        case atStart =>
          refine ⟨k, Nat.le_refl _, hP, rfl, ?_, ?_, ?_, ?_⟩
          · simp; omega
          · exact (put3_below Hb.out (Nat.le_refl _)).alloc (by rw [put3_size]; omega) _
          · exact room_step (put3_room Hro.out (by omega)) hs4 _
          · exact peers_step (peers_put' Hpe.out Hro.out (by omega) (ins_eq _ _ _).symm (ins_eq _ _ _).symm (ins_eq _ _ _).symm) hs4 _
        case round =>
          clear d0 d1 d2 f0 f1 f2 hs4 Hro Hpe Hb hsz
          obtain ⟨j, hkj, hj, rfl, hsz, hb, hro, hpe⟩ := hrel
          have Hro := hid hro
          have Hpe := hid hpe
          have Hb := hid hb
          clear hro hpe hb
          by_cases hlt : j < n
          · obtain ⟨b, off, rfl, hg, hp⟩ := Hr2.out.at (by omega)
            obtain ⟨⟨v0, d0⟩, f0⟩ := Hro.out ((j + 1) * 3) (by omega)
            obtain ⟨⟨v1, d1⟩, f1⟩ := Hro.out ((j + 1) * 3 + 1) (by omega)
            obtain ⟨⟨v2, d2⟩, f2⟩ := Hro.out ((j + 1) * 3 + 2) (by omega)
            obtain ⟨c0, c1, c2⟩ := (hp.below Hb.out hg) j (by omega)
            have hg' : b < wr.heap.size := Nat.lt_trans hg hsz
            have hj1 : (j : Int) + 1 < (n : Int) + 1 := by omega
            have hj0 : (0 : Int) ≤ (j : Int) + 1 := by omega
            have hw1 : IntKind.i64.wrap ((j : Int) + 1) = (j : Int) + 1 := by rw [IntKind.wrap_i64]; omega
            clear hp
            go_wp2_with fail
            go_region_held3 (fun wx => wx.cell? ⟨b, off + j * 3, none⟩ = some (.string (N j)) ∧ wx.cell? ⟨b, off + j * 3 + 1, none⟩ = some (.int .u32 (A j)) ∧ wx.cell? ⟨b, off + j * 3 + 2, none⟩ = some (.int .u32 (E j))) (simp [*, go_sem, World.cell?_alloc_past])
              (first | (go_at_call 11; refine (newPeer11 _ _ _ _).mono ?_; rintro r w1 ⟨rfl, rfl⟩))
            go_wp2_with fail
            go_roundw
            case rel =>
              have hs3 : w2.heap.size < (put3 wr w2.heap.size ((j + 1) * 3) (N j) (A j) (E j)).heap.size := by rw [put3_size]; exact hsz
              have hi0 : k < j + 1 := by omega
              refine ⟨j + 1, by omega, by omega, by go_num, ?_, ?_, ?_, ?_⟩
              · simp; omega
              · exact ((put3_below Hb.out (Nat.le_refl _)).alloc (by rw [put3_size]; omega) _).drew
              · exact room_step (put3_room Hro.out (by omega)) hs3 _
              · exact peers_step (peers_put' Hpe.out Hro.out (by omega) (ins_gt _ _ _ hi0).symm (ins_gt _ _ _ hi0).symm (ins_gt _ _ _ hi0).symm) hs3 _
            case measure => simp [intOf]; omega
          · obtain rfl : j = n := by omega
            have Hb3 : Hid (Below w.heap.size w wr) := Hb1.out.trans (Hb.out.mono Hb1.out.size)
            have Hm3 := hid (Hm.out.below Hb.out)
            have e1 : has (ins E k ep) (j + 1) ep = true := has_true k (by omega) (ins_eq _ _ _)
            have e2 : has (ins E k ep) (j + 1) q = (has E j q || q == ep) := has_ins E j k ep q hP
            go_wp2_with fail
            refine (on12 _ j N A E q _ Hm3.out (by omega) Hs.out).mono ?_
            rintro r w3 ⟨rfl, hb3⟩
            have Hb4 := hid (Hb3.out.trans (hb3.mono Hb3.out.size))
            have Hpe4 := hid (Hpe.out.below hb3 hsz)
            have hsz4 : w2.heap.size < w3.heap.size := Nat.lt_of_lt_of_le hsz hb3.size
            clear hb3 Hb3 Hpe hsz Hro Hb
            go_wp2_with fail
            refine (on12 _ (j + 1) (ins N k nd) (ins A k pe) (ins E k ep) q _ (Or.inr ⟨w2.heap.size, 0, j + 1, hsz4, rfl, Hpe4.out⟩) (by omega) Hi.out).mono ?_
            rintro r w4 ⟨rfl, hb4⟩
            have Hb5 := hid (Hb4.out.trans (hb4.mono Hb4.out.size))
            have Hpe5 := hid (Hpe4.out.below hb4 hsz4)
            have hsz5 : w2.heap.size < w4.heap.size := Nat.lt_of_lt_of_le hsz4 hb4.size
            clear hb4 Hb4 Hpe4 hsz4
            go_wp2_with fail
            refine (on12 _ (j + 1) (ins N k nd) (ins A k pe) (ins E k ep) ep _ (Or.inr ⟨w2.heap.size, 0, j + 1, hsz5, rfl, Hpe5.out⟩) (by omega) Hi.out).mono ?_
            rintro r w5 ⟨rfl, hb5⟩
            have Hb6 := hid (Hb5.out.trans (hb5.mono Hb5.out.size))
            clear hb5 Hb5 Hpe5
            go_wp2_with fail
            all_goals
              go_ret
              exact ⟨by simp [*], Hb6.out⟩
end Go.Proofs.Qxb6614246a
