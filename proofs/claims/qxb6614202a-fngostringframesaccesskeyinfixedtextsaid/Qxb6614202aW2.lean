import Derived.Test.Qxb6614202aGs
import Derived.Deep.QuietTactic
import Derived.BigQuiet
import Derived.Lib.Strings
namespace Go.Proofs.Qxb6614202a
open Go.RowKit

/-! ### The plain law: the text is a fixed piece of 19 bytes, the id, a fixed piece of 19 bytes. -/
def preL : List UInt8 := [97, 119, 115, 97, 112, 105, 46, 67, 114, 101, 100, 101, 110, 116, 105, 97, 108, 115, 123]
def sufL : List UInt8 := [32, 40, 115, 101, 99, 114, 101, 116, 32, 119, 105, 116, 104, 104, 101, 108, 100, 41, 125]
theorem gstr_list (a : ByteArray) : (gstr a).data.toList = preL ++ (a.data.toList ++ sufL) := by
  simp only [gstr, str, ByteArray.data_append, Array.toList_append, preL, sufL]
  simp
theorem preL_len : preL.length = 19 := rfl
theorem sufL_len : sufL.length = 19 := rfl
theorem len_data (a : ByteArray) : a.data.toList.length = a.size := by cases a; rfl

theorem c1_law (a b : ByteArray) (k : Nat) (hk : k ≤ 19) : (((gstr a).extract 0 k).toList == ((gstr b).extract 0 k).toList) = true := by
  rw [beq_iff_eq, Lib.extract_toList, Lib.extract_toList, gstr_list, gstr_list]
  simp only [List.drop_zero, Nat.sub_zero]
  rw [List.take_append_of_le_length (by rw [preL_len]; exact hk), List.take_append_of_le_length (by rw [preL_len]; exact hk)]

theorem c2_law (a : ByteArray) (k : Nat) (hk : k = 19) : (((gstr a).extract k (k + a.size)).toList == a.toList) = true := by
  subst hk
  rw [beq_iff_eq, Lib.extract_toList, gstr_list, Go.ByteArray.toList_eq]
  rw [List.drop_left' preL_len, Nat.add_sub_cancel_left, List.take_left' (len_data a)]

theorem c4_list (a : ByteArray) : ((gstr a).extract (19 + a.size) (a.size + 38)).toList = sufL := by
  rw [Lib.extract_toList, gstr_list, ← List.append_assoc, List.drop_left' (by rw [List.length_append, preL_len, len_data])]
  rw [show a.size + 38 - (19 + a.size) = 19 from by omega, List.take_of_length_le (by rw [sufL_len]; exact Nat.le_refl _)]

theorem c4_law (a b : ByteArray) (k : Nat) (hk : k = 19) : (((gstr a).extract (k + a.size) (a.size + 38)).toList == ((gstr b).extract (k + b.size) (b.size + 38)).toList) = true := by
  subst hk
  rw [c4_list, c4_list]; exact beq_self_eq_true _

theorem Grown.drewN {W w' : World} (h : Grown W w') (n : Nat) : Grown W (w'.drewN n) := h

set_option maxRecDepth 100000 in
set_option maxHeartbeats 1000000 in
theorem law4 (a0 a1 a2 a3 a4 a5 : ByteArray) (w0 : a0.size ≤ maxLen) (w1 : a1.size ≤ maxLen) (w2 : a2.size ≤ maxLen) (w3 : a3.size ≤ maxLen) (w4 : a4.size ≤ maxLen) (w5 : a5.size ≤ maxLen) (w : World) :
    Calls Try.prog 4 #[.string a0, .string a1, .string a2, .string a3, .string a4, .string a5] w fun e w' => e = .returned (.bool true) ∧ Grown w w' := by
  go_enter Try.func4, Try.ntmps4
  go_wp2_with fail
  refine (bytes9 a0 a1 a2 a3 a4 a5 _ w0 w1 w2 w3 w4 w5).mono ?_
  rintro e w' ⟨⟨b, rfl, hb⟩, rfl⟩
  unfold maxLen at *
  cases b
  · clear hb
    go_wp2
    go_ret
    exact ⟨rfl, Grown.refl _⟩
  have hs := hb rfl
  clear hb
  have k0 : a0.size ≤ 1048576 := by omega
  have k1 : a1.size ≤ 1048576 := by omega
  have k2 : a2.size ≤ 1048576 := by omega
  have k3 : a3.size ≤ 1048576 := by omega
  have k4 : a4.size ≤ 1048576 := by omega
  have k5 : a5.size ≤ 1048576 := by omega
  clear w0 w1 w2 w3 w4 w5
  go_wp2_with fail
  refine (gostring_any a0 a1 a2 _ k0).mono ?_
  rintro e w2 ⟨rfl, rfl⟩
  go_wp2_with fail
  refine (gostring_any a3 a4 a5 _ k3).mono ?_
  rintro e w2 ⟨rfl, rfl⟩
  have g0 := gstr_size a0
  have g3 := gstr_size a3
  have e0 : ((a0.size : Int) + 38 - a0.size) = 38 := by omega
  have e3 : ((a3.size : Int) + 38 - a3.size) = 38 := by omega
  go_wp2_with fail
  clear e0 e3
  go_loopw [19] (fun p wr => ∃ k : Nat, k ≤ 19 ∧ p = .int .i64 k ∧ Grown w' wr) (fun p _ => 20 - (intOf p).toNat)
  case atStart => exact ⟨0, by omega, rfl, by repeat (first | exact Grown.refl _ | apply Grown.drew | apply Grown.alloc)⟩
  case round =>
    obtain ⟨k, hk, rfl, hg⟩ := hrel
    have c1 := c1_law a0 a3 k hk
    by_cases c2 : (((gstr a0).extract k (k + a0.size)).toList == a0.toList) = true
    · by_cases c3 : (((gstr a3).extract k (k + a3.size)).toList == a3.toList) = true
      · by_cases c4 : (((gstr a0).extract (k + a0.size) (a0.size + 38)).toList == ((gstr a3).extract (k + a3.size) (a3.size + 38)).toList) = true
        · go_wp2_with fail
          go_quiet (fail)
          go_wp2
          go_ret
          exact ⟨rfl, Grown.drewN hg nq⟩
        · have hne : k ≠ 19 := fun e => c4 (c4_law a0 a3 k e)
          have c4 : (((gstr a0).extract (k + a0.size) (a0.size + 38)).toList == ((gstr a3).extract (k + a3.size) (a3.size + 38)).toList) = false := by simpa using c4
          have hk' : k < 19 := by omega
          clear hne
          go_wp2_with fail
          go_quiet (fail)
          go_wp2
          go_roundw
          case rel => exact ⟨k + 1, by omega, by go_num, Grown.drewN hg nq⟩
          case measure => simp [intOf]; omega
      · have hne : k ≠ 19 := fun e => c3 (c2_law a3 k e)
        have c3 : (((gstr a3).extract k (k + a3.size)).toList == a3.toList) = false := by simpa using c3
        have hk' : k < 19 := by omega
        clear hne
        go_wp2_with fail
        go_quiet (fail)
        go_wp2
        go_roundw
        case rel => exact ⟨k + 1, by omega, by go_num, Grown.drewN hg nq⟩
        case measure => simp [intOf]; omega
    · have hne : k ≠ 19 := fun e => c2 (c2_law a0 k e)
      have c2 : (((gstr a0).extract k (k + a0.size)).toList == a0.toList) = false := by simpa using c2
      have hk' : k < 19 := by omega
      clear hne
      go_wp2_with fail
      go_quiet (fail)
      go_wp2
      go_roundw
      case rel => exact ⟨k + 1, by omega, by go_num, Grown.drewN hg nq⟩
      case measure => simp [intOf]; omega

end Go.Proofs.Qxb6614202a
