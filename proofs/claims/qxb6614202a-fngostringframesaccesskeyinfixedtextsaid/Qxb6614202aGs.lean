/-
  The contracts of the callees on the two laws' roads: zzBytes (both copies), Credentials.String, Credentials.GoString.
-/
import Derived.Test.Qxb6614202aProg
import Derived.WalkKit
import Derived.WalkSpells
import Derived.WalkLawsBesides
import Derived.RowKit3
namespace Go.Proofs.Qxb6614202a
open Go.RowKit

/-- What String gives. -/
def str (a : ByteArray) : ByteArray := { data := #[123] } ++ a ++ { data := #[32, 40, 115, 101, 99, 114, 101, 116, 32, 119, 105, 116, 104, 104, 101, 108, 100, 41, 125] }
/-- What GoString gives. -/
def gstr (a : ByteArray) : ByteArray := { data := #[97, 119, 115, 97, 112, 105, 46, 67, 114, 101, 100, 101, 110, 116, 105, 97, 108, 115] } ++ str a

theorem str_size (a : ByteArray) : (str a).size = a.size + 20 := by
  have h1 : (ByteArray.mk #[123]).size = 1 := rfl
  have h2 : (ByteArray.mk #[32, 40, 115, 101, 99, 114, 101, 116, 32, 119, 105, 116, 104, 104, 101, 108, 100, 41, 125]).size = 19 := rfl
  unfold str
  rw [ByteArray.size_append, ByteArray.size_append, h1, h2]; omega
theorem gstr_size (a : ByteArray) : (gstr a).size = a.size + 38 := by
  have h1 : (ByteArray.mk #[97, 119, 115, 97, 112, 105, 46, 67, 114, 101, 100, 101, 110, 116, 105, 97, 108, 115]).size = 18 := rfl
  unfold gstr
  rw [ByteArray.size_append, str_size, h1]; omega

set_option maxHeartbeats 400000 in
theorem string_any (a b c : ByteArray) (w : World) (ha : a.size ≤ 1048576) :
    Calls Try.prog 14 #[.agg #[.string a, .string b, .string c]] w fun e w' => e = .returned (.string (str a)) ∧ w' = w.alloc (.cells #[.string a, .string b, .string c] 24) := by
  go_enter Try.func14, Try.ntmps14
  go_wp2
  go_ret
  exact ⟨rfl, rfl⟩

set_option maxHeartbeats 400000 in
theorem gostring_any (a b c : ByteArray) (w : World) (ha : a.size ≤ 1048576) :
    Calls Try.prog 8 #[.agg #[.string a, .string b, .string c]] w fun e w' => e = .returned (.string (gstr a)) ∧ w' = (w.alloc (.cells #[.string a, .string b, .string c] 24)).alloc (.cells #[.string a, .string b, .string c] 24) := by
  have hs : (str a).size ≤ 2097152 := by rw [str_size]; omega
  go_enter Try.func8, Try.ntmps8
  go_wp2_with (go_at_call 14; refine (string_any a b c _ ha).mono ?_; rintro e w' ⟨rfl, rfl⟩)
  go_ret
  exact ⟨rfl, rfl⟩

set_option maxHeartbeats 400000 in
theorem bytes7 (a0 a1 a2 a3 a4 a5 : ByteArray) (w : World) (w0 : a0.size ≤ maxLen) (w1 : a1.size ≤ maxLen) (w2 : a2.size ≤ maxLen) (w3 : a3.size ≤ maxLen) (w4 : a4.size ≤ maxLen) (w5 : a5.size ≤ maxLen) :
    Calls Try.prog 7 #[.string a0, .string a1, .string a2, .string a3, .string a4, .string a5] w fun e w' => (∃ b, e = .returned (.bool b) ∧ (b = true → a0.size + a1.size + a2.size + a3.size + a4.size + a5.size ≤ 1048576)) ∧ w' = w := by
  unfold maxLen at *
  go_enter Try.func7, Try.ntmps7
  go_wp2
  all_goals go_ret
  all_goals exact ⟨⟨_, rfl, by first | (intro h; cases h; done) | (intro _; omega)⟩, rfl⟩

set_option maxHeartbeats 400000 in
theorem bytes9 (a0 a1 a2 a3 a4 a5 : ByteArray) (w : World) (w0 : a0.size ≤ maxLen) (w1 : a1.size ≤ maxLen) (w2 : a2.size ≤ maxLen) (w3 : a3.size ≤ maxLen) (w4 : a4.size ≤ maxLen) (w5 : a5.size ≤ maxLen) :
    Calls Try.prog 9 #[.string a0, .string a1, .string a2, .string a3, .string a4, .string a5] w fun e w' => (∃ b, e = .returned (.bool b) ∧ (b = true → a0.size + a1.size + a2.size + a3.size + a4.size + a5.size ≤ 1048576)) ∧ w' = w := by
  unfold maxLen at *
  go_enter Try.func9, Try.ntmps9
  go_wp2
  all_goals go_ret
  all_goals exact ⟨⟨_, rfl, by first | (intro h; cases h; done) | (intro _; omega)⟩, rfl⟩
end Go.Proofs.Qxb6614202a
