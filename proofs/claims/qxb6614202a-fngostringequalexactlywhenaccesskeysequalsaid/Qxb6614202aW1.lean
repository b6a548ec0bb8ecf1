import Derived.Test.Qxb6614202aGs
import Derived.Deep.RegionHeld3
namespace Go.Proofs.Qxb6614202a
open Go.RowKit

/-! ### The plain law: the frame around the id is fixed, so the two texts are equal just where the ids are. -/
theorem gstr_inj {a b : ByteArray} (h : gstr a = gstr b) : a = b := by
  apply ByteArray.ext
  have hd := congrArg (fun x : ByteArray => x.data.toList) h
  simp only [gstr, str, ByteArray.data_append, Array.toList_append] at hd
  have h1 := List.append_cancel_left hd
  have h2 := List.append_cancel_right h1
  have h3 := List.append_cancel_left h2
  exact Array.ext' h3

theorem toList_inj {a b : ByteArray} (h : a.toList = b.toList) : a = b := by
  rw [Go.ByteArray.toList_eq, Go.ByteArray.toList_eq] at h
  exact ByteArray.ext (Array.ext' h)

theorem gstr_law (a b : ByteArray) : (((gstr a).toList == (gstr b).toList) == (a.toList == b.toList)) = true := by
  by_cases h : a = b
  · subst h; simp
  · have h1 : (a.toList == b.toList) = false := beq_eq_false_iff_ne.2 fun e => h (toList_inj e)
    have h2 : ((gstr a).toList == (gstr b).toList) = false := beq_eq_false_iff_ne.2 fun e => h (gstr_inj (toList_inj e))
    rw [h1, h2]; rfl

theorem ret_true {b : Bool} (h : b = true) : Ending.returned (.bool b) = .returned (.bool true) := by rw [h]

set_option maxHeartbeats 1000000 in
theorem law3 (a0 a1 a2 a3 a4 a5 : ByteArray) (w0 : a0.size ≤ maxLen) (w1 : a1.size ≤ maxLen) (w2 : a2.size ≤ maxLen) (w3 : a3.size ≤ maxLen) (w4 : a4.size ≤ maxLen) (w5 : a5.size ≤ maxLen) (w : World) :
    Calls Try.prog 3 #[.string a0, .string a1, .string a2, .string a3, .string a4, .string a5] w fun e w' => e = .returned (.bool true) ∧ Grown w w' := by
  go_enter Try.func3, Try.ntmps3
  go_wp2_with fail
  refine (bytes7 a0 a1 a2 a3 a4 a5 _ w0 w1 w2 w3 w4 w5).mono ?_
  rintro e w' ⟨⟨b, rfl, hb⟩, rfl⟩
  unfold maxLen at *
  cases b
  · clear hb
    go_wp2
    go_ret
    exact ⟨rfl, Grown.refl _⟩
  have hs := hb rfl
  clear hb
  have k0 : a0.size ≤ 1048576 := by omega
  have k1 : a1.size ≤ 1048576 := by omega
  have k2 : a2.size ≤ 1048576 := by omega
  have k3 : a3.size ≤ 1048576 := by omega
  have k4 : a4.size ≤ 1048576 := by omega
  have k5 : a5.size ≤ 1048576 := by omega
  clear w0 w1 w2 w3 w4 w5
  go_wp2_with fail
  go_region_held3 (fun wx => wx.cell? ⟨w'.heap.size, 0, none⟩ = some (.string a0) ∧ wx.cell? ⟨w'.heap.size, 1, none⟩ = some (.string a1) ∧ wx.cell? ⟨w'.heap.size, 2, none⟩ = some (.string a2) ∧ wx.cell? ⟨w'.heap.size + 1, 0, none⟩ = some (.string a3) ∧ wx.cell? ⟨w'.heap.size + 1, 1, none⟩ = some (.string a4) ∧ wx.cell? ⟨w'.heap.size + 1, 2, none⟩ = some (.string a5)) (simp [go_sem, World.cell?_alloc_past])
    (first
      | (go_at_call_of 8 (Value.agg #[Value.string a0, Value.string a1, Value.string a2]); refine (gostring_any a0 a1 a2 _ k0).mono ?_; rintro e w2 ⟨rfl, rfl⟩)
      | (go_at_call_of 8 (Value.agg #[Value.string a3, Value.string a4, Value.string a5]); refine (gostring_any a3 a4 a5 _ k3).mono ?_; rintro e w2 ⟨rfl, rfl⟩))
  go_wp2
  go_ret
  exact ⟨ret_true (gstr_law a0 a3), by repeat (first | exact Grown.refl _ | apply Grown.drew | apply Grown.alloc)⟩
end Go.Proofs.Qxb6614202a
