/-
  The law FnLevelOfSetOne, where the levels are not empty.
-/
import Derived.Test.Qxb6608516aB
import Derived.Handy
namespace Go.Proofs.Qxb6608516a
open Go.RowKit

/-- The levels with the k-th set to v. -/
def setAt (L : Nat → Int) (k : Nat) (v : Int) (i : Nat) : Int := if i = k then v else L i

theorem own_set {w : World} {g n : Nat} {F : Nat → Int} (h : Own w g n F) (i : Nat) (x : Int) : Own (w.setCell ⟨g, i, none⟩ (.int .i64 x)) g n (setAt F i x) := by
  refine ⟨by rw [World.size_setCell]; exact h.1, fun j hj => ⟨?_, by rw [World.frozen?_setCell]; exact (h.2 j hj).2⟩⟩
  unfold setAt
  by_cases hji : j = i
  · subst hji
    rw [if_pos rfl]
    exact World.cell?_setCell_same (h := (h.2 j hj).1) ..
  · rw [if_neg hji, World.cell?_setCell_other (h := fun hh => hji (by have := congrArg Addr.off hh; exact this.symm))]
    exact (h.2 j hj).1
theorem set_part (L : Nat → Int) (q i : Nat) : setAt (fun j => if j < q then L j else 0) q (L q) i = if i < q + 1 then L i else 0 := by
  show (if i = q then L q else if i < q then L i else 0) = _
  by_cases hiq : i = q
  · subst hiq; rw [if_pos rfl, if_pos (Nat.lt_succ_self _)]
  · rw [if_neg hiq]
    by_cases h : i < q
    · rw [if_pos h, if_pos (by omega)]
    · rw [if_neg h, if_neg (by omega)]
theorem Own.congr {w : World} {g n : Nat} {F G : Nat → Int} (h : Own w g n F) (e : ∀ i, i < n → F i = G i) : Own w g n G :=
  ⟨h.1, fun i hi => by rw [← e i hi]; exact h.2 i hi⟩

/-- A levels value in the box p: its component row and its level row. -/
def Lv (w : World) (p g0 n g1 m : Nat) : Prop :=
  p < w.heap.size ∧ w.cell? ⟨p, 0, none⟩ = some (.slice (some ⟨g0, 0, none⟩) n n) ∧ w.cell? ⟨p, 1, none⟩ = some (.slice (some ⟨g1, 0, none⟩) m m) ∧ w.cell? ⟨p, 2, none⟩ = some (.slice none 0 0)
theorem Lv.below {w w' : World} {p g0 n g1 m B : Nat} (h : Lv w p g0 n g1 m) (hb : Below B w w') (hp : p < B) : Lv w' p g0 n g1 m :=
  ⟨Nat.lt_of_lt_of_le h.1 hb.size, by rw [hb.cell (p := ⟨p, _, none⟩) hp]; exact h.2.1, by rw [hb.cell (p := ⟨p, _, none⟩) hp]; exact h.2.2.1, by rw [hb.cell (p := ⟨p, _, none⟩) hp]; exact h.2.2.2⟩
theorem Lv.new (w : World) (g0 n g1 m : Nat) : Lv (w.alloc (.cells #[.slice (some ⟨g0, 0, none⟩) n n, .slice (some ⟨g1, 0, none⟩) m m, .slice none 0 0] 27)) w.heap.size g0 n g1 m :=
  ⟨by rw [World.size_alloc]; omega, by rw [World.cell?_alloc_at _ _ _ _ rfl]; rfl, by rw [World.cell?_alloc_at _ _ _ _ rfl]; rfl, by rw [World.cell?_alloc_at _ _ _ _ rfl]; rfl⟩
theorem below_one (w : World) (x : Obj) : Below w.heap.size w (w.alloc x) := (Below.refl _ _).alloc (Nat.le_refl _) _
theorem two_boxes (w : World) (g0 n g1 m g2 : Nat) (w' : World) (e : w' = (((w.alloc (.cells #[.slice (some ⟨g0, 0, none⟩) n n, .slice (some ⟨g1, 0, none⟩) m m, .slice none 0 0] 27)).alloc (.cells #[.slice (some ⟨g0, 0, none⟩) n n, .slice (some ⟨g1, 0, none⟩) m m, .slice none 0 0] 27)).alloc (.cells #[.slice (some ⟨g0, 0, none⟩) n n, .slice (some ⟨g2, 0, none⟩) m m, .slice none 0 0] 27)).alloc (.cells #[.slice (some ⟨g0, 0, none⟩) n n, .slice (some ⟨g2, 0, none⟩) m m, .slice none 0 0] 27)) :
    Below w.heap.size w w' ∧ Lv w' (w.heap.size + 1) g0 n g1 m ∧ Lv w' (w.heap.size + 1 + 1 + 1) g0 n g2 m := by
  subst e
  have s1 : ∀ (u : World) (x : Obj), (u.alloc x).heap.size = u.heap.size + 1 := fun u x => World.size_alloc ..
  refine ⟨((((Below.refl _ _).alloc (Nat.le_refl _) _).alloc (by rw [s1]; omega) _).alloc (by rw [s1, s1]; omega) _).alloc (by rw [s1, s1, s1]; omega) _, ?_, ?_⟩
  · have h := Lv.new (w.alloc (.cells #[.slice (some ⟨g0, 0, none⟩) n n, .slice (some ⟨g1, 0, none⟩) m m, .slice none 0 0] 27)) g0 n g1 m
    rw [s1] at h
    exact (h.below (below_one _ _) (by rw [s1, s1]; omega)).below (below_one _ _) (by rw [s1, s1, s1]; omega)
  · have h := Lv.new (((w.alloc (.cells #[.slice (some ⟨g0, 0, none⟩) n n, .slice (some ⟨g1, 0, none⟩) m m, .slice none 0 0] 27)).alloc (.cells #[.slice (some ⟨g0, 0, none⟩) n n, .slice (some ⟨g1, 0, none⟩) m m, .slice none 0 0] 27)).alloc (.cells #[.slice (some ⟨g0, 0, none⟩) n n, .slice (some ⟨g2, 0, none⟩) m m, .slice none 0 0] 27)) g0 n g2 m
    rw [s1, s1, s1] at h
    exact h

set_option maxRecDepth 100000 in
set_option maxHeartbeats 4000000 in
theorem law_main (b0 o0 n cap0 b1 o1 m cap1 : Nat) (C L : Nat → Int) (c v : Int) (w : World)
    (hn : n ≤ 9223372036854775807) (hm : m ≤ 9223372036854775807) (hm0 : 0 < m)
    (hb0 : b0 < w.heap.size) (hC : ∀ i, i < n → w.cell? ⟨b0, o0 + i, none⟩ = some (.int .i64 (C i))) (hb1 : b1 < w.heap.size) (hL : ∀ i, i < m → w.cell? ⟨b1, o1 + i, none⟩ = some (.int .i64 (L i))) :
    Calls Try.prog 4 #[.slice (some ⟨b0, o0, none⟩) n cap0, .slice (some ⟨b1, o1, none⟩) m cap1, .int .i64 c, .int .i64 v] w fun r w' => r = .returned (.bool true) ∧ Below w.heap.size w w' := by
  have HC := hid hC
  have HL := hid hL
  clear hC hL
  go_enter Try.func4, Try.ntmps4
  go_wp2_with fail
  refine (bytes9 _ _ n _ m _ c v _ hn hm).mono ?_
  rintro r w1 ⟨⟨bb, rfl⟩, hw⟩
  have hw := hw.symm; subst hw
  cases bb
  · go_wp2_with fail
    go_ret
    exact ⟨rfl, Below.refl _ _⟩
  by_cases hn1 : 32768 < n
  · go_wp2_with fail
    go_ret
    exact ⟨rfl, Below.refl _ _⟩
  by_cases hm1 : 32768 < m
  · go_wp2_with fail
    go_ret
    exact ⟨rfl, Below.refl _ _⟩
  by_cases hc0 : c < 0
  · go_wp2_with fail
    go_ret
    exact ⟨rfl, Below.refl _ _⟩
  obtain ⟨c, rfl⟩ := Int.eq_ofNat_of_zero_le (show 0 ≤ c by omega)
  clear hc0
  by_cases hc1 : n ≤ c
  · have hc1' : (n : Int) ≤ (c : Int) := by omega
    go_wp2_with fail
    go_ret
    exact ⟨rfl, Below.refl _ _⟩
  by_cases hv0 : v < 0
  · go_wp2_with fail
    go_ret
    exact ⟨rfl, Below.refl _ _⟩
  have hcn : c < n := by omega
  have hv : 0 ≤ v := by omega
  clear hc1 hv0
  -- the two copies
  have hmk0 := run_mkI n (by omega)
  have hmk1 := run_mkI m (by omega)
  obtain ⟨W1, hcp0, bel1, own1⟩ := copy_all b0 o0 n cap0 C w hb0 HC.out
  have Bel1 := hid bel1
  have Own1 := hid own1
  obtain ⟨W2, hcp1, bel2, own2⟩ := copy_all b1 o1 m cap1 L W1 (Nat.lt_of_lt_of_le hb1 Bel1.out.size) (fun i hi => by rw [Bel1.out.cell (p := ⟨b1, _, none⟩) hb1]; exact HL.out i hi)
  have Bel2 := hid bel2
  have Own2 := hid own2
  clear bel1 own1 bel2 own2
  go_wp2_with fail
  -- every component is in range, or the law returns true
  clear hmk0 hcp0 hcp1
  go_loopw [11] (fun i wr => wr = W2 ∧ ∃ k : Nat, k ≤ n ∧ i = .int .i64 k ∧ ∀ j, j < k → 0 ≤ C j ∧ C j < m) (fun i _ => n - (intOf i).toNat)
  case atStart => exact ⟨rfl, 0, Nat.zero_le _, rfl, fun j hj => absurd hj (Nat.not_lt_zero _)⟩
  case round =>
    obtain ⟨hw, k, hk, rfl, hall⟩ := hrel
    have hw := hw.symm; subst hw
    have Hall := hid hall
    clear hall
    by_cases hlt : k < n
    · have hlt' : (k : Int) < (n : Int) := by omega
      obtain ⟨og, oc⟩ := Own1.out.below Bel2.out Own1.out.1
      obtain ⟨c0, _⟩ := oc k hlt
      clear oc
      by_cases h1 : C k < 0
      · go_wp2_with fail
        go_ret
        exact ⟨rfl, Bel1.out.trans (Bel2.out.mono Bel1.out.size)⟩
      by_cases h2 : (m : Int) ≤ C k
      · go_wp2_with fail
        go_ret
        exact ⟨rfl, Bel1.out.trans (Bel2.out.mono Bel1.out.size)⟩
      go_wp2_with fail
      go_roundw
      case rel =>
        refine ⟨by first | trivial | rfl, k + 1, by omega, by go_num, fun j hj => ?_⟩
        by_cases hjk : j < k
        · exact Hall.out j hjk
        · obtain rfl : j = k := by omega
          exact ⟨by omega, by omega⟩
      case measure => simp [intOf]; omega
    obtain rfl : n = k := by omega
    go_wp2_with fail
    -- every level is at least 0, or the law returns true
    go_loopw [12] (fun i wr => wr = W2 ∧ ∃ k : Nat, k ≤ m ∧ i = .int .i64 k ∧ ∀ j, j < k → 0 ≤ L j) (fun i _ => m - (intOf i).toNat)
    case atStart => exact ⟨rfl, 0, Nat.zero_le _, rfl, fun j hj => absurd hj (Nat.not_lt_zero _)⟩
    case round =>
      obtain ⟨hw, q, hq, rfl, hlall⟩ := hrel
      have hw := hw.symm; subst hw
      have HLall := hid hlall
      clear hlall
      by_cases hlt1 : q < m
      · have hlt1' : (q : Int) < (m : Int) := by omega
        obtain ⟨c0, _⟩ := Own2.out.2 q hlt1
        have o1 := Own2.out.1
        by_cases h1 : L q < 0
        · go_wp2_with fail
          go_ret
          exact ⟨rfl, Bel1.out.trans (Bel2.out.mono Bel1.out.size)⟩
        go_wp2_with fail
        go_roundw
        case rel =>
          refine ⟨by first | trivial | rfl, q + 1, by omega, by go_num, fun j hj => ?_⟩
          by_cases hjk : j < q
          · exact HLall.out j hjk
          · obtain rfl : j = q := by omega
            exact (by omega)
        case measure => simp [intOf]; omega
      obtain rfl : m = q := by omega
      obtain ⟨kc, hkc⟩ := Int.eq_ofNat_of_zero_le (Hall.out c hcn).1
      have hkm : kc < m := by have := (Hall.out c hcn).2; omega
      obtain ⟨og, oc⟩ := Own1.out.below Bel2.out Own1.out.1
      obtain ⟨cc, _⟩ := oc c hcn
      rw [hkc] at cc
      clear oc
      have hcn' : (c : Int) < (n : Int) := by omega
      go_wp2_with fail
      -- the levels go over
      clear hmk1 cc
      go_loopw [15] (fun i wr => ∃ q : Nat, q ≤ m ∧ i = .int .i64 q ∧ Below W2.heap.size W2 wr ∧ Own wr W2.heap.size m (fun j => if j < q then L j else 0)) (fun i _ => m - (intOf i).toNat)
      case atStart => exact ⟨0, Nat.zero_le _, rfl, (Below.refl _ _).alloc (Nat.le_refl _) _, (mk_own m W2).congr (fun i _ => by rw [if_neg (Nat.not_lt_zero _)])⟩
      case round =>
        obtain ⟨q, hq, rfl, hbel, hown⟩ := hrel
        have Hbel := hid hbel
        have Hown := hid hown
        clear hbel hown
        obtain ⟨og1, oc1⟩ := Own2.out.below Hbel.out Own2.out.1
        by_cases hlt1 : q < m
        · have hlt1' : (q : Int) < (m : Int) := by omega
          obtain ⟨c0, _⟩ := oc1 q hlt1
          have o2 := Hown.out.1
          obtain ⟨c2, f2⟩ := Hown.out.2 q hlt1
          clear oc1
          go_wp2_with fail
          go_roundw
          case rel =>
            refine ⟨q + 1, by omega, by go_num, Hbel.out.setCell (p := ⟨_, _, none⟩) (Nat.le_refl _) _, (own_set Hown.out q (L q)).congr (fun i _ => set_part L q i)⟩
          case measure => simp [intOf]; omega
        obtain rfl : m = q := by omega
        clear oc1
        have HO := hid (show Own (wr.setCell ⟨W2.heap.size, kc, none⟩ (.int .i64 v)) W2.heap.size m (setAt L kc v) from own_set (Hown.out.congr (fun i hi => by rw [if_pos hi])) kc v)
        have HB := hid (show Below W2.heap.size W2 (wr.setCell ⟨W2.heap.size, kc, none⟩ (.int .i64 v)) from Hbel.out.setCell (p := ⟨_, _, none⟩) (Nat.le_refl _) _)
        have o2 := Hown.out.1
        obtain ⟨c2, f2⟩ := Hown.out.2 kc hkm
        clear Hown
        have hkm' : (kc : Int) < (m : Int) := by omega
        go_wp2_with fail
        generalize wr.setCell ⟨W2.heap.size, kc, none⟩ (.int .i64 v) = W3 at HO HB ⊢
        clear c2 f2 o2 Hbel og1 og
        have OC := hid ((Own1.out.below Bel2.out Own1.out.1).below HB.out (Nat.lt_of_lt_of_le Own1.out.1 Bel2.out.size))
        have OL := hid (Own2.out.below HB.out Own2.out.1)
        have s0 := OC.out.1
        have s1 := OL.out.1
        have s2 := HO.out.1
        refine (newLevels10 w.heap.size n W1.heap.size m _).mono ?_
        rintro r w1 ⟨rfl, rfl⟩
        go_wp2_with fail
        refine (newLevels10 w.heap.size n W2.heap.size m _).mono ?_
        rintro r w1 ⟨rfl, rfl⟩
        go_wp2_with fail
        generalize e4 : (((W3.alloc _).alloc _).alloc _).alloc _ = W4
        obtain ⟨b4, l1, l2⟩ := two_boxes W3 w.heap.size n W1.heap.size m W2.heap.size W4 e4.symm
        clear e4
        have B4 := hid b4
        have P1 := hid (l1.1)
        have L1 := hid l1
        have L2 := hid l2
        clear b4 l1 l2
        have OC4 := hid (OC.out.below B4.out s0)
        have OL4 := hid (OL.out.below B4.out s1)
        have O24 := hid (HO.out.below B4.out s2)
        have E4 := hid (show Below w.heap.size w W4 from ((Bel1.out.trans (Bel2.out.mono Bel1.out.size)).trans (HB.out.mono (Nat.le_trans Bel1.out.size Bel2.out.size))).trans (B4.out.mono (Nat.le_of_lt s0)))
        clear OC OL HO B4 HB
        have hkc2 : setAt L kc v kc = v := by unfold setAt; rw [if_pos rfl]
        refine (levelOf11 w.heap.size n W2.heap.size m c kc v W4 hcn hkm OC4.out.1 O24.out.1 (by rw [(OC4.out.2 c hcn).1, hkc]) (by rw [(O24.out.2 kc hkm).1, hkc2])).mono ?_
        rintro r W5 ⟨rfl, b5⟩
        have B5 := hid b5
        clear b5
        go_wp2_with fail
        -- every category
        go_loopw [18] (fun i wr => Below W4.heap.size W4 wr ∧ ∃ d : Nat, d ≤ n ∧ i = .int .i64 d) (fun i _ => n - (intOf i).toNat)
        case atStart => exact ⟨B5.out, 0, Nat.zero_le _, rfl⟩
        case round =>
          obtain ⟨hbl, d, hd, rfl⟩ := hrel
          have Hbl := hid hbl
          clear hbl
          by_cases hlt2 : d < n
          · have hlt2' : (d : Int) < (n : Int) := by omega
            obtain ⟨e, he⟩ := Int.eq_ofNat_of_zero_le (Hall.out d hlt2).1
            have hem : e < m := by have := (Hall.out d hlt2).2; omega
            have OCr := hid (OC4.out.below Hbl.out OC4.out.1)
            have OLr := hid (OL4.out.below Hbl.out OL4.out.1)
            have O2r := hid (O24.out.below Hbl.out O24.out.1)
            obtain ⟨p1, p2, p3, p4⟩ := L1.out.below Hbl.out L1.out.1
            have HCd := hid (show wr.cell? ⟨w.heap.size, d, none⟩ = some (.int .i64 (e : Int)) by rw [(OCr.out.2 d hlt2).1, he])
            go_wp2_with fail
            refine (levelOf11 w.heap.size n W1.heap.size m d e (L e) wr hlt2 hem OCr.out.1 OLr.out.1 HCd.out (OLr.out.2 e hem).1).mono ?_
            rintro r W6 ⟨rfl, b6⟩
            have B6 := hid (Hbl.out.trans (b6.mono Hbl.out.size))
            have Hb6 := hid b6
            clear b6 p1 p2 p3 p4
            obtain ⟨p1, p2, p3, p4⟩ := L2.out.below B6.out L2.out.1
            have HCd6 := hid (show W6.cell? ⟨w.heap.size, d, none⟩ = some (.int .i64 (e : Int)) by rw [Hb6.out.cell (p := ⟨w.heap.size, d, none⟩) OCr.out.1]; exact HCd.out)
            have O26 := hid (O24.out.below B6.out O24.out.1)
            have OC6 := hid (OC4.out.below B6.out OC4.out.1)
            go_wp2_with fail
            refine (levelOf11 w.heap.size n W2.heap.size m d e (setAt L kc v e) W6 hlt2 hem OC6.out.1 O26.out.1 HCd6.out (O26.out.2 e hem).1).mono ?_
            rintro r W7 ⟨rfl, b7⟩
            have B7 := hid (B6.out.trans (b7.mono B6.out.size))
            have cd : W7.cell? ⟨w.heap.size, d, none⟩ = some (.int .i64 (e : Int)) := by rw [b7.cell (p := ⟨w.heap.size, d, none⟩) OC6.out.1]; exact HCd6.out
            have sd : w.heap.size < W7.heap.size := Nat.lt_of_lt_of_le OC6.out.1 b7.size
            clear b7 p1 p2 p3 p4
            by_cases hek : e = kc
            · subst hek
              rw [hkc2]
              go_wp2_with fail
              go_roundw
              case rel => exact ⟨B7.out, d + 1, by omega, by go_num⟩
              case measure => simp [intOf]; omega
            · have hse : setAt L kc v e = L e := by unfold setAt; rw [if_neg hek]
              rw [hse]
              have hek' : (e : Int) ≠ (kc : Int) := by omega
              go_wp2_with fail
              go_roundw
              case rel => exact ⟨B7.out, d + 1, by omega, by go_num⟩
              case measure => simp [intOf]; omega
          go_wp2_with fail
          go_ret
          exact ⟨rfl, E4.out.trans (Hbl.out.mono E4.out.size)⟩
end Go.Proofs.Qxb6608516a
