/-
  The small callees: cmp.Compare[uint32], onEndpoint's closure, ZZnewPeerTLV.
-/
import Derived.Test.Qxb6614246aProg
import Derived.Test.Qxb6614246aPlain
import Derived.WalkKit
import Derived.WalkSpells
import Derived.WalkLawsBesides
import Derived.RowKit3
namespace Go.Proofs.Qxb6614246a
open Go.RowKit

set_option maxHeartbeats 400000 in
theorem compare27 (x y : Int) (w : World) :
    Calls Try.prog 27 #[.int .u32 x, .int .u32 y] w fun e w' => e = .returned (.int .i64 (cmpI x y)) ∧ w' = w := by
  by_cases h1 : x < y
  · go_enter Try.func27, Try.ntmps27
    go_wp2
    go_ret
    exact ⟨by rw [cmpI_lt h1]; rfl, rfl⟩
  · by_cases h2 : y < x
    · go_enter Try.func27, Try.ntmps27
      go_wp2
      go_ret
      exact ⟨by rw [cmpI_gt h2]; rfl, rfl⟩
    · go_enter Try.func27, Try.ntmps27
      go_wp2
      go_ret
      exact ⟨by rw [cmpI_eq (by omega)]; rfl, rfl⟩

set_option maxHeartbeats 400000 in
theorem closure26 (nd : ByteArray) (pe e q : Int) (w : World) :
    Calls Try.prog 26 #[.agg #[.string nd, .int .u32 pe, .int .u32 e], .int .u32 q] w fun r w' => r = .returned (.int .i64 (cmpI e q)) ∧ w' = w.alloc (.cells #[.string nd, .int .u32 pe, .int .u32 e] 32) := by
  go_enter Try.func26, Try.ntmps26
  go_wp2_with fail
  refine (compare27 e q _).mono ?_
  rintro r w' ⟨rfl, rfl⟩
  go_wp2
  go_ret
  exact ⟨rfl, rfl⟩

set_option maxHeartbeats 400000 in
theorem newPeer11 (nd : ByteArray) (pe e : Int) (w : World) :
    Calls Try.prog 11 #[.string nd, .int .u32 pe, .int .u32 e] w fun r w' => r = .returned (.agg #[.string nd, .int .u32 pe, .int .u32 e]) ∧ w' = w.alloc (.cells #[.string nd, .int .u32 pe, .int .u32 e] 32) := by
  go_enter Try.func11, Try.ntmps11
  go_wp2
  exact bodyPost_ret (v := .agg #[.string nd, .int .u32 pe, .int .u32 e]) (by simp [results, Try.results11, go_sem]) rfl ⟨rfl, rfl⟩
end Go.Proofs.Qxb6614246a
