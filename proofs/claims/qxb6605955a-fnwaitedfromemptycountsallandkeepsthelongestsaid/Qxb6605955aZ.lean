/-
  The law FnWaitedFromEmptyCountsAllAndKeepsTheLongest: the plain law on the running maximum, then the walk.
-/
import Derived.Test.Qxb6605955aY
namespace Go.Proofs.Qxb6605955a
open Go.RowKit

/-! ### The running maximum -/
def M (F : Nat → Int) : Nat → Nat
  | 0 => 0
  | k + 1 => mx (M F k) (secW (F k))

/-- Was one of the first k positive? -/
def anyPos (F : Nat → Int) : Nat → Bool
  | 0 => false
  | k + 1 => anyPos F k || decide (0 < F k)

/-- Each of the first n fits an int64. -/
def Fits (F : Nat → Int) (n : Nat) : Prop := ∀ i, i < n → -9223372036854775808 ≤ F i ∧ F i ≤ 9223372036854775807

theorem secW_sec (d : Int) (h : -9223372036854775808 ≤ d ∧ d ≤ 9223372036854775807) : Sec d (secW d) := by
  obtain ⟨_, _, _, hs⟩ := secW_facts d h.1 h.2
  exact hs

theorem M_facts (F : Nat → Int) (t : Nat) (hF : Fits F t) :
    Fin (M F t) ∧ M F t < 9223372036854775808 ∧ (∀ i, i < t → key (secW (F i)) ≤ key (M F t)) ∧ (key (M F t) = 0 ∨ ∃ i, i < t ∧ key (M F t) = key (secW (F i))) := by
  induction t with
  | zero => exact ⟨fin_zero, show 0 < 9223372036854775808 by decide, fun i hi => absurd hi (Nat.not_lt_zero _), Or.inl rfl⟩
  | succ t ih =>
    obtain ⟨h1, h2, h3, h4⟩ := ih (fun i hi => hF i (by omega))
    have hs := secW_sec (F t) (hF t (by omega))
    have hk := mx_key (M F t) (secW (F t))
    show Fin (mx (M F t) (secW (F t))) ∧ mx (M F t) (secW (F t)) < _ ∧ (∀ i, i < t + 1 → key (secW (F i)) ≤ key (mx (M F t) (secW (F t)))) ∧ (key (mx (M F t) (secW (F t))) = 0 ∨ ∃ i, i < t + 1 ∧ key (mx (M F t) (secW (F t))) = key (secW (F i)))
    refine ⟨?_, ?_, ?_, ?_⟩
    · rcases mx_or (M F t) (secW (F t)) with h | h <;> rw [h]
      · exact h1
      · exact hs.fin
    · by_cases hlt : key (M F t) < key (secW (F t))
      · rw [mx_lt hlt]
        have h0 : key (M F t) = (M F t : Int) := by unfold key; rw [if_pos h2]
        have hng := ng_of_key_pos hs.fin.1 (by omega)
        unfold ng at hng
        simpa using hng
      · by_cases hgt : key (secW (F t)) < key (M F t)
        · rw [mx_gt hgt]; exact h2
        · rw [mx_eq (by omega) (by omega)]; exact h2
    · intro i hi
      by_cases hit : i < t
      · exact Int.le_trans (h3 i hit) hk.1
      · obtain rfl : i = t := by omega
        exact hk.2
    · rcases mx_or (M F t) (secW (F t)) with h | h <;> rw [h]
      · rcases h4 with h4 | ⟨i, hi, h4⟩
        · exact Or.inl h4
        · exact Or.inr ⟨i, by omega, h4⟩
      · exact Or.inr ⟨t, by omega, rfl⟩

theorem M_key (F : Nat → Int) (t : Nat) (hF : Fits F t) : key (M F t) = (M F t : Int) := by
  unfold key; rw [if_pos (M_facts F t hF).2.1]

/-- The same numbers in another order: the same maximum. -/
theorem M_same (F G : Nat → Int) (t : Nat) (hF : Fits F t) (hG : Fits G t) (h1 : ∀ i, i < t → ∃ j, j < t ∧ F i = G j) (h2 : ∀ i, i < t → ∃ j, j < t ∧ G i = F j) : M F t = M G t := by
  have half : ∀ (F G : Nat → Int), Fits F t → Fits G t → (∀ i, i < t → ∃ j, j < t ∧ F i = G j) → M F t ≤ M G t := by
    intro F G hF hG h
    have kF := M_key F t hF
    have kG := M_key G t hG
    obtain ⟨_, _, _, f4⟩ := M_facts F t hF
    obtain ⟨_, _, g3, _⟩ := M_facts G t hG
    rcases f4 with f4 | ⟨i, hi, f4⟩
    · omega
    · obtain ⟨j, hj, e⟩ := h i hi
      have := g3 j hj
      rw [← e] at this
      omega
  exact Nat.le_antisymm (half F G hF hG h1) (half G F hG hF h2)

theorem M_rev (F : Nat → Int) (n : Nat) (hF : Fits F n) : M (fun i => F (n - 1 - i)) n = M F n :=
  M_same _ _ n (fun i hi => hF (n - 1 - i) (by omega)) hF (fun i hi => ⟨n - 1 - i, by omega, rfl⟩) (fun i hi => ⟨n - 1 - i, by omega, by show F i = F (n - 1 - (n - 1 - i)); rw [show n - 1 - (n - 1 - i) = i from by omega]⟩)

theorem anyPos_iff (F : Nat → Int) (t : Nat) : anyPos F t = true ↔ ∃ i, i < t ∧ 0 < F i := by
  induction t with
  | zero =>
    constructor
    · intro h; cases h
    · rintro ⟨i, hi, _⟩; exact absurd hi (Nat.not_lt_zero _)
  | succ t ih =>
    show (anyPos F t || decide (0 < F t)) = true ↔ _
    rw [Bool.or_eq_true, ih, decide_eq_true_eq]
    constructor
    · rintro (⟨i, hi, h⟩ | h)
      · exact ⟨i, by omega, h⟩
      · exact ⟨t, by omega, h⟩
    · rintro ⟨i, hi, h⟩
      by_cases hit : i < t
      · exact Or.inl ⟨i, hit, h⟩
      · obtain rfl : i = t := by omega
        exact Or.inr h

/-- The maximum is above 0 just where one of them was positive. -/
theorem M_pos (F : Nat → Int) (t : Nat) (hF : Fits F t) : 0 < key (M F t) ↔ anyPos F t = true := by
  obtain ⟨_, h2, h3, h4⟩ := M_facts F t hF
  rw [anyPos_iff]
  constructor
  · intro h
    rcases h4 with h4 | ⟨i, hi, h4⟩
    · omega
    · refine ⟨i, hi, ?_⟩
      have hs := secW_sec (F i) (hF i hi)
      rcases Int.lt_trichotomy (F i) 0 with hd | hd | hd
      · have := (hs.neg hd).1; omega
      · rw [hs.zero hd, key_zero] at h4; omega
      · exact hd
  · rintro ⟨i, hi, h⟩
    have := ((secW_sec (F i) (hF i hi)).pos h).1
    have := h3 i hi
    omega
theorem M_ord (F : Nat → Int) (t : Nat) (hF : Fits F t) : (FloatKind.f64.format.order (M F t) 0 == some Ordering.gt) = anyPos F t := by
  have hm := (M_facts F t hF).1.toNum
  have hk := M_key F t hF
  have hp := M_pos F t hF
  cases hb : anyPos F t with
  | true => rw [ord_gt hm num_zero (by rw [key_zero]; exact hp.2 hb)]; rfl
  | false =>
    have : ¬ 0 < key (M F t) := fun h => by rw [hp.1 h] at hb; cases hb
    rw [ord_eq hm num_zero (by rw [key_zero]; omega)]; rfl

/-- 'if s > want { want = s }' is mx. -/
theorem M_step_gt (F : Nat → Int) (t : Nat) (h : key (M F t) < key (secW (F t))) : M F (t + 1) = secW (F t) := mx_lt h
theorem M_step_le (F : Nat → Int) (t : Nat) (hF : Fits F (t + 1)) (h : ¬ key (M F t) < key (secW (F t))) : M F (t + 1) = M F t := by
  show mx _ _ = _
  by_cases hgt : key (secW (F t)) < key (M F t)
  · exact mx_gt hgt
  · exact mx_eq (by omega) (by have := (M_facts F t (fun i hi => hF i (by omega))).2.1; omega)

/-! ### The walk -/
/-- A slice of n numbers: empty, or its cells lie in memory. -/
def Ints (w : World) (a : Option Addr) (n : Nat) (D : Nat → Int) : Prop :=
  n = 0 ∨ ∃ b off, a = some ⟨b, off, none⟩ ∧ b < w.heap.size ∧ ∀ i, i < n → w.cell? ⟨b, off + i, none⟩ = some (.int .i64 (D i))
theorem Ints.at {w : World} {a : Option Addr} {n : Nat} {D : Nat → Int} (h : Ints w a n D) (hn : 0 < n) :
    ∃ b off, a = some ⟨b, off, none⟩ ∧ b < w.heap.size ∧ ∀ i, i < n → w.cell? ⟨b, off + i, none⟩ = some (.int .i64 (D i)) := by
  rcases h with h | h
  · omega
  · exact h

set_option maxHeartbeats 400000 in
theorem bytes13 (a : Option Addr) (n cap : Nat) (w : World) (hn : n ≤ 9223372036854775807) :
    Calls Try.prog 13 #[.slice a n cap] w fun r w' => (∃ b, r = .returned (.bool b)) ∧ w' = w := by
  go_enter Try.func13, Try.ntmps13
  go_wp2
  all_goals go_ret
  all_goals exact ⟨⟨_, rfl⟩, rfl⟩

/-- A backlog at block g: count and oldest; it may be written. -/
def Back (w : World) (g : Nat) (c : Int) (o : Nat) : Prop :=
  g < w.heap.size ∧ w.cell? ⟨g, 0, none⟩ = some (.int .i64 c) ∧ w.cell? ⟨g, 1, none⟩ = some (.float .f64 o) ∧ w.frozen? ⟨g, 0, none⟩ = false ∧ w.frozen? ⟨g, 1, none⟩ = false

theorem hid {p : Prop} (h : p) : Hid p := h

theorem cOther {w : World} {a b : Addr} {v : Value} (h : a ≠ b) : (w.setCell a v).cell? b = w.cell? b := World.cell?_setCell_other (h := h) ..
theorem cSame {w : World} {a : Addr} {u v : Value} (h : w.cell? a = some u) : (w.setCell a v).cell? a = some v := World.cell?_setCell_same (h := h) ..

theorem back_set {w : World} {g : Nat} {c : Int} {o : Nat} (h : Back w g c o) (c' : Int) (o' : Nat) : Back ((w.setCell ⟨g, 0, none⟩ (.int .i64 c')).setCell ⟨g, 1, none⟩ (.float .f64 o')) g c' o' := by
  obtain ⟨h0, h1, h2, h3, h4⟩ := h
  refine ⟨by rw [World.size_setCell, World.size_setCell]; exact h0, ?_, ?_, by rw [World.frozen?_setCell, World.frozen?_setCell]; exact h3, by rw [World.frozen?_setCell, World.frozen?_setCell]; exact h4⟩
  · rw [cOther (fun hh => by have := congrArg Addr.off hh; cases this)]
    exact cSame h1
  · exact cSame (u := .float .f64 o) (by rw [cOther (fun hh => by have := congrArg Addr.off hh; cases this)]; exact h2)
theorem back_alloc {w : World} {g : Nat} {c : Int} {o : Nat} (h : Back w g c o) (x : Obj) : Back (w.alloc x) g c o := by
  obtain ⟨h0, h1, h2, h3, h4⟩ := h
  exact ⟨by rw [World.size_alloc]; omega, by rw [World.cell?_alloc_past _ _ _ h0]; exact h1, by rw [World.cell?_alloc_past _ _ _ h0]; exact h2, by rw [World.frozen?_alloc_past _ _ _ h0]; exact h3, by rw [World.frozen?_alloc_past _ _ _ h0]; exact h4⟩
theorem back_new (w : World) (c : Int) (o : Nat) : Back (w.alloc (.cells #[.int .i64 c, .float .f64 o] 26)) w.heap.size c o :=
  ⟨by rw [World.size_alloc]; omega, by rw [World.cell?_alloc_at _ _ _ _ rfl]; rfl, by rw [World.cell?_alloc_at _ _ _ _ rfl]; rfl, World.frozen?_alloc_at _ _ _ _ rfl, World.frozen?_alloc_at _ _ _ _ rfl⟩
theorem below_set {B : Nat} {W w : World} {g : Nat} (h : Below B W w) (hg : B ≤ g) (u v : Value) : Below B W ((w.setCell ⟨g, 0, none⟩ u).setCell ⟨g, 1, none⟩ v) :=
  (h.setCell (p := ⟨g, 0, none⟩) hg u).setCell (p := ⟨g, 1, none⟩) hg v

set_option maxRecDepth 100000 in
set_option maxHeartbeats 4000000 in
theorem law4 (a : Option Addr) (n cap : Nat) (D : Nat → Int) (w : World) (hr : Ints w a n D) (hn : n ≤ 9223372036854775807) (hD : Fits D n) :
    Calls Try.prog 4 #[.slice a n cap] w fun r w' => r = .returned (.bool true) ∧ Below w.heap.size w w' := by
  have Hr := hid hr
  have HD := hid hD
  clear hr hD
  go_enter Try.func4, Try.ntmps4
  go_wp2_with fail
  refine (bytes13 a n cap _ hn).mono ?_
  rintro r w1 ⟨⟨bb, rfl⟩, hw⟩
  have hw := hw.symm; subst hw
  cases bb
  · go_wp2_with fail
    go_ret
    exact ⟨rfl, Below.refl _ _⟩
  by_cases hn1 : 131072 < n
  · go_wp2_with fail
    go_ret
    exact ⟨rfl, Below.refl _ _⟩
  go_wp2_with fail
  go_loopw [4, 5, 6] (fun want any i wr => ∃ k : Nat, k ≤ n ∧ want = .float .f64 (M D k) ∧ any = .bool (anyPos D k) ∧ i = .int .i64 k ∧ Back wr w.heap.size k (M D k) ∧ Below w.heap.size w wr) (fun _ _ i _ => n - (intOf i).toNat)
  case atStart => exact ⟨0, Nat.zero_le _, rfl, rfl, rfl, back_new w 0 0, (Below.refl _ _).alloc (Nat.le_refl _) _⟩
  case round =>
    obtain ⟨k, hk, rfl, rfl, rfl, ⟨b0, b1, b2, b3, b4⟩, hb⟩ := hrel
    have Hb := hid hb
    clear hb
    by_cases hlt : k < n
    · obtain ⟨g, off, rfl, hg, hc⟩ := Hr.out.at (by omega)
      have c0 : wr.cell? ⟨g, off + k, none⟩ = some (.int .i64 (D k)) := by rw [Hb.out.cell (p := ⟨g, _, none⟩) hg]; exact hc k hlt
      clear hc
      have hg' : g < wr.heap.size := Nat.lt_trans hg b0
      have Hk : Hid (Fits D (k + 1)) := fun i hi => HD.out i (by omega)
      have Hk0 : Hid (Fits D k) := fun i hi => HD.out i (by omega)
      have hdk := HD.out k hlt
      have HS : Hid (Sec (D k) (secW (D k))) := secW_sec (D k) hdk
      have HM : Hid (Num (M D k)) := (M_facts D k Hk0.out).1.toNum
      have hw1 : wrap64 1 = 1 := by decide +kernel
      have hw2 : wrap64 ((k : Int) + 1) = (k : Int) + 1 := by unfold wrap64; omega
      have Hni : Hid (mx 18442240474082181120 (secW (D k)) = secW (D k)) := mx_ninf HS.out.fin
      go_wp2_with fail
      refine (negInf7 _).mono ?_
      rintro r w1 ⟨rfl, hw⟩
      have hw := hw.symm; subst hw
      go_wp2_with fail
      refine (waited8_num _ 0 (D k) _ _ ?_ ?_ ?_ ?_ num_ninf hdk.1 hdk.2).mono ?_
      · simp [go_sem]
      · simp [go_sem]
      · simp [go_sem]
      · simp [go_sem]
      rintro r w1 ⟨rfl, rfl⟩
      rw [Hni.out]
      have HB := hid (show Back wr w.heap.size k (M D k) from ⟨b0, b1, b2, b3, b4⟩)
      by_cases hA : key (M D k) < key (secW (D k))
      · have hpos : 0 < D k := by
          have h0 := M_key D k Hk0.out
          rcases Int.lt_trichotomy (D k) 0 with h | h | h
          · have := (HS.out.neg h).1; omega
          · rw [HS.out.zero h, key_zero] at hA; omega
          · exact h
        have o1 := ord_gt HS.out.fin.toNum HM.out hA
        have o2 := ord_gt HS.out.fin.toNum num_zero (by rw [key_zero]; exact (HS.out.pos hpos).1)
        have HM1 : Hid (M D (k + 1) = secW (D k)) := M_step_gt D k hA
        have He : Hid (mx (M D k) (secW (D k)) = secW (D k)) := mx_lt hA
        have HP : Hid (anyPos D (k + 1) = true) := by show (anyPos D k || decide (0 < D k)) = true; rw [decide_eq_true hpos, Bool.or_true]
        clear hA
        go_wp2_with fail
        refine (waited8_num _ (k : Int) (D k) _ _ ?_ ?_ ?_ ?_ HM.out hdk.1 hdk.2).mono ?_
        · simp [go_sem, b0, b1]
        · simp [go_sem, b0, b2]
        · simp [go_sem, b0, b3]
        · simp [go_sem, b0, b4]
        rintro r w1 ⟨rfl, rfl⟩
        rw [He.out]
        go_wp2_with (go_at_call 11; refine (same11 _ _ _ HS.out.fin.toNum HS.out.fin.toNum).mono ?_; rintro r w1 ⟨rfl, rfl⟩; rw [beq_self_eq_true])
        go_roundw
        case rel =>
          refine ⟨k + 1, by omega, by rw [HM1.out], by rw [HP.out], by go_num, ?_, ?_⟩
          · rw [HM1.out]; exact back_alloc (back_set HB.out _ _) _
          · exact ((below_set Hb.out (Nat.le_refl _) _ _).alloc (by rw [World.size_setCell, World.size_setCell]; omega) _).drew.drew
        case measure => simp [intOf]; omega
      · have o1 : (FloatKind.f64.format.order (secW (D k)) (M D k) == some Ordering.gt) = false := by
          rcases Int.lt_or_eq_of_le (Int.not_lt.1 hA) with h | h
          · rw [ord_lt HS.out.fin.toNum HM.out h]; rfl
          · rw [ord_eq HS.out.fin.toNum HM.out h]; rfl
        have HM1 : Hid (M D (k + 1) = M D k) := M_step_le D k Hk.out hA
        have He : Hid (mx (M D k) (secW (D k)) = M D k) := M_step_le D k Hk.out hA
        by_cases hpos : 0 < D k
        · have o2 := ord_gt HM.out num_zero (by rw [key_zero]; have := (HS.out.pos hpos).1; omega)
          have HP : Hid (anyPos D (k + 1) = true) := by show (anyPos D k || decide (0 < D k)) = true; rw [decide_eq_true hpos, Bool.or_true]
          clear hA
          go_wp2_with fail
          refine (waited8_num _ (k : Int) (D k) _ _ ?_ ?_ ?_ ?_ HM.out hdk.1 hdk.2).mono ?_
          · simp [go_sem, b0, b1]
          · simp [go_sem, b0, b2]
          · simp [go_sem, b0, b3]
          · simp [go_sem, b0, b4]
          rintro r w1 ⟨rfl, rfl⟩
          rw [He.out]
          go_wp2_with (go_at_call 11; refine (same11 _ _ _ HM.out HM.out).mono ?_; rintro r w1 ⟨rfl, rfl⟩; rw [beq_self_eq_true])
          go_roundw
          case rel =>
            refine ⟨k + 1, by omega, by rw [HM1.out], by rw [HP.out], by go_num, ?_, ?_⟩
            · rw [HM1.out]; exact back_alloc (back_set HB.out _ _) _
            · exact ((below_set Hb.out (Nat.le_refl _) _ _).alloc (by rw [World.size_setCell, World.size_setCell]; omega) _).drew.drew
          case measure => simp [intOf]; omega
        · have o2 := M_ord D k Hk0.out
          have HP : Hid (anyPos D (k + 1) = anyPos D k) := by show (anyPos D k || decide (0 < D k)) = _; rw [decide_eq_false hpos, Bool.or_false]
          clear hA
          go_wp2_with fail
          refine (waited8_num _ (k : Int) (D k) _ _ ?_ ?_ ?_ ?_ HM.out hdk.1 hdk.2).mono ?_
          · simp [go_sem, b0, b1]
          · simp [go_sem, b0, b2]
          · simp [go_sem, b0, b3]
          · simp [go_sem, b0, b4]
          rintro r w1 ⟨rfl, rfl⟩
          rw [He.out]
          go_wp2_with (go_at_call 11; refine (same11 _ _ _ HM.out HM.out).mono ?_; rintro r w1 ⟨rfl, rfl⟩; rw [beq_self_eq_true])
          go_roundw
          case rel =>
            refine ⟨k + 1, by omega, by rw [HM1.out], by rw [HP.out], by go_num, ?_, ?_⟩
            · rw [HM1.out]; exact back_alloc (back_set HB.out _ _) _
            · exact ((below_set Hb.out (Nat.le_refl _) _ _).alloc (by rw [World.size_setCell, World.size_setCell]; omega) _).drew.drew
          case measure => simp [intOf]; omega
    · obtain rfl : k = n := by omega
      have HM : Hid (Num (M D k)) := (M_facts D k HD.out).1.toNum
      clear b1 b2 b3 b4
      obtain ⟨wa, hwa⟩ : ∃ x, x = wr := ⟨wr, rfl⟩
      subst hwa
      have Hrev : Hid (M (fun i => D (k - 1 - i)) k = M D k) := M_rev D k HD.out
      have HF : Hid (Fits (fun i => D (k - 1 - i)) k) := fun i hi => HD.out (k - 1 - i) (by omega)
      go_wp2_with fail
      go_loopw [9] (fun i wr => ∃ j t : Nat, j + t = k ∧ i = .int .i64 ((j : Int) - 1) ∧ Back wr wa.heap.size t (M (fun i => D (k - 1 - i)) t) ∧ Below wa.heap.size wa wr) (fun i _ => (intOf i + 1).toNat)
      case atStart => exact ⟨k, 0, by omega, rfl, back_new wa 0 0, (Below.refl _ _).alloc (Nat.le_refl _) _⟩
      case round =>
        obtain ⟨j, t, hjt, hi, ⟨b0', b1, b2, b3, b4⟩, hb⟩ := hrel
        have Hb2 := hid hb
        have HB := hid (show Back wr wa.heap.size t (M (fun i => D (k - 1 - i)) t) from ⟨b0', b1, b2, b3, b4⟩)
        clear hb
        have HM2 : Hid (Num (M (fun i => D (k - 1 - i)) t)) := (M_facts _ t (fun i hi => HF.out i (by omega))).1.toNum
        cases j with
        | zero =>
          obtain rfl : t = k := by omega
          rw [show ((0 : Nat) : Int) - 1 = -1 from by decide] at hi
          subst hi
          rw [Hrev.out] at b2
          have he : (M D t == M D t) = true := beq_self_eq_true _
          go_wp2_with (go_at_call 11; refine (same11 _ _ _ HM.out HM.out).mono ?_; rintro r w1 ⟨rfl, rfl⟩)
          go_ret
          exact ⟨rfl, Hb.out.trans (Hb2.out.mono Hb.out.size)⟩
        | succ m =>
          rw [show ((m + 1 : Nat) : Int) - 1 = (m : Int) from by omega] at hi
          subst hi
          obtain ⟨g, off, rfl, hg, hc⟩ := Hr.out.at (by omega)
          have hmk : m < k := by omega
          have c0 : wr.cell? ⟨g, off + m, none⟩ = some (.int .i64 (D m)) := by
            rw [Hb2.out.cell (p := ⟨g, _, none⟩) (Nat.lt_of_lt_of_le hg Hb.out.size), Hb.out.cell (p := ⟨g, _, none⟩) hg]; exact hc m hmk
          clear hc
          have hdk := HD.out m hmk
          have hw2 : wrap64 ((t : Int) + 1) = (t : Int) + 1 := by unfold wrap64; omega
          have Hst : Hid (mx (M (fun i => D (k - 1 - i)) t) (secW (D m)) = M (fun i => D (k - 1 - i)) (t + 1)) := by
            show _ = mx _ (secW (D (k - 1 - t)))
            rw [show k - 1 - t = m from by omega]
          go_wp2_with fail
          refine (waited8_num _ (t : Int) (D m) _ _ b1 b2 b3 b4 HM2.out hdk.1 hdk.2).mono ?_
          rintro r w1 ⟨rfl, rfl⟩
          rw [Hst.out, hw2]
          clear b1 b2 b3 b4 c0
          go_wp2_with fail
          go_roundw
          case rel =>
            refine ⟨m, t + 1, by omega, by go_num, ?_, ?_⟩
            · exact back_set HB.out _ _
            · exact (below_set Hb2.out (Nat.le_refl _) _ _).drew
          case measure => simp [intOf]
end Go.Proofs.Qxb6605955a
