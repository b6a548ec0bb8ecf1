/-
  The closed facts for the walk over fmt's stopped front 'fmt.errorf' at this dump, and the walks.
-/
import Derived.Test.Qxb6614202aFmtProg
import Derived.WalkKit
import Derived.WalkSpells
import Derived.WalkLawsBesides
import Derived.RowKit3
import Derived.Stop.CallBack
import Derived.Stop.IfaceNil
import GoSem.ClaimData
namespace Go.Proofs.Qxb6614202aFmt
open Go.RowKit Go.Extern.Stop Go.Stop Go.Extern

theorem call12 (args : Array Value) (w : World) : (callFunc 12 args).run Tryf.prog w = ((FmtStop.errorf #[9, 35] #[26] args).run Tryf.prog w).andThen fun v w' => .ok (.value v) w' :=
  run_callFunc_extern Tryf.func12 (by kernel_rfl) (by kernel_rfl) (by kernel_rfl) (by kernel_rfl) args w
theorem guardF (name : String) (w : World) : (FmtStop.guard name).run Tryf.prog w = .ok () w := by kernel_rfl
theorem fmt0 : FmtStop.printed? ⟨#[120, 109, 108, 58, 32, 98, 121, 116, 101, 32, 37, 100, 58, 32, 37, 115]⟩ 2 = some [(0, 100, false), (1, 115, false)] := by kernel_rfl
theorem fmt0r (w : World) : (FmtDoors.printed ⟨#[120, 109, 108, 58, 32, 98, 121, 116, 101, 32, 37, 100, 58, 32, 37, 115]⟩ 2).run Tryf.prog w = .ok [(0, 100, false), (1, 115, false)] w := by kernel_rfl
def shape9 : List UInt8 := [12, 6, 0, 0, 0, 0, 0, 0, 0, 115, 116, 114, 105, 110, 103]
theorem op9_115 (name : String) (x : ByteArray) (w : World) : (FmtStop.operand name false 115 false (.iface 9 (.string x))).run Tryf.prog w = .ok (shape9, FmtStop.pack x.data.toList) w := by kernel_rfl
theorem op9_115w (name : String) (x : ByteArray) (w : World) : (FmtStop.operand name true 115 false (.iface 9 (.string x))).run Tryf.prog w = .ok (shape9, FmtStop.pack x.data.toList) w := by kernel_rfl
def shape3 : List UInt8 := [5, 3, 0, 0, 0, 0, 0, 0, 0, 105, 110, 116]
theorem op3_100 (name : String) (x : Int) (w : World) : (FmtStop.operand name false 100 false (.iface 3 (.int .i64 x))).run Tryf.prog w = .ok (shape3, Go.Extern.Stop.digits 8 (x % 2 ^ 64).toNat) w := by kernel_rfl
theorem op3_100w (name : String) (x : Int) (w : World) : (FmtStop.operand name true 100 false (.iface 3 (.int .i64 x))).run Tryf.prog w = .ok (shape3, Go.Extern.Stop.digits 8 (x % 2 ^ 64).toNat) w := by kernel_rfl
theorem ptr37 (w : World) : (FmtStop.ptrTo "errors.errorString").run Tryf.prog w = .ok 37 w := by kernel_rfl
theorem elem37 (w : World) : (elemOf 37).run Tryf.prog w = .ok 39 w := by kernel_rfl
theorem isError37 (w : World) : (FmtDoors.textMethod 37 "Error").run Tryf.prog w = .ok true w := by kernel_rfl
attribute [local go_sem] call12 guardF fmt0 fmt0r op9_115 op9_115w op3_100 op3_100w ptr37 elem37 isError37

set_option maxHeartbeats 400000 in
/-- (*xmlParser).fail: an error of errors.errorString's make, new; two new blocks, one draw. -/
theorem fail_any (F : Interp) (what : ByteArray) (i : Int) (b : Nat) (w : World) (hF : F.answers w.tape)
    (hc1 : w.cell? ⟨b, 1, none⟩ = some (.int .i64 i)) :
    Calls Tryf.prog 10 #[.pointer (some ⟨b, 0, none⟩), .string what] w fun e w' => e = .returned (.iface 37 (.pointer (some ⟨w.heap.size + 1, 0, none⟩))) ∧
      ∃ s : ByteArray, w' = ((w.alloc (.cells #[.iface 3 (.int .i64 i), .iface 9 (.string what)] 20)).alloc (.cells #[.string s] 39)).drew := by
  have hF' := answers_open hF
  go_enter Tryf.func10, Tryf.ntmps10
  go_wp2
  go_ret
  exact ⟨rfl, _, rfl⟩

set_option maxHeartbeats 400000 in
theorem bytes4 (a0 a2 : ByteArray) (i : Int) (w : World) (w0 : a0.size ≤ maxLen) (w2 : a2.size ≤ maxLen) :
    Calls Tryf.prog 4 #[.string a0, .int .i64 i, .string a2] w fun e w' => (∃ b, e = .returned (.bool b) ∧ (b = true → a0.size + a2.size ≤ 1048576)) ∧ w' = w := by
  unfold maxLen at *
  go_enter Tryf.func4, Tryf.ntmps4
  go_wp2
  all_goals go_ret
  all_goals exact ⟨⟨_, rfl, by first | (intro h; cases h; done) | (intro _; omega)⟩, rfl⟩

/-- The parser that ZZnewXMLParser lays: src, i, no spare elements. -/
def parserObj (src : ByteArray) (i : Int) : Obj := .cells #[.string src, .int .i64 i, .slice none 0 0] 32

set_option maxHeartbeats 400000 in
theorem new5 (src : ByteArray) (i : Int) (w : World) :
    Calls Tryf.prog 5 #[.string src, .int .i64 i] w fun e w' => e = .returned (.pointer (some ⟨w.heap.size, 0, none⟩)) ∧ w' = w.alloc (parserObj src i) := by
  go_enter Tryf.func5, Tryf.ntmps5
  go_wp2
  go_ret
  exact ⟨rfl, rfl⟩

set_option maxHeartbeats 400000 in
theorem fail6 (F : Interp) (what : ByteArray) (i : Int) (b : Nat) (w : World) (hF : F.answers w.tape)
    (hc1 : w.cell? ⟨b, 1, none⟩ = some (.int .i64 i)) :
    Calls Tryf.prog 6 #[.pointer (some ⟨b, 0, none⟩), .string what] w fun e w' => e = .returned (.iface 37 (.pointer (some ⟨w.heap.size + 1, 0, none⟩))) ∧
      ∃ s : ByteArray, w' = ((w.alloc (.cells #[.iface 3 (.int .i64 i), .iface 9 (.string what)] 20)).alloc (.cells #[.string s] 39)).drew := by
  go_enter Tryf.func6, Tryf.ntmps6
  go_wp2_with fail
  refine (fail_any F what i b _ hF hc1).mono ?_
  rintro e w2 ⟨rfl, s, rfl⟩
  go_wp2
  go_ret
  exact ⟨rfl, s, rfl⟩

set_option maxHeartbeats 400000 in
theorem i7 (b : Nat) (i : Int) (w : World) (hc : w.cell? ⟨b, 1, none⟩ = some (.int .i64 i)) :
    Calls Tryf.prog 7 #[.pointer (some ⟨b, 0, none⟩)] w fun e w' => e = .returned (.int .i64 i) ∧ w' = w := by
  go_enter Tryf.func7, Tryf.ntmps7
  go_wp2
  go_ret
  exact ⟨rfl, rfl⟩

set_option maxHeartbeats 400000 in
theorem src8 (b : Nat) (src : ByteArray) (w : World) (hc : w.cell? ⟨b, 0, none⟩ = some (.string src)) :
    Calls Tryf.prog 8 #[.pointer (some ⟨b, 0, none⟩)] w fun e w' => e = .returned (.string src) ∧ w' = w := by
  go_enter Tryf.func8, Tryf.ntmps8
  go_wp2
  go_ret
  exact ⟨rfl, rfl⟩

set_option maxHeartbeats 400000 in
theorem free9 (b : Nat) (w : World) (hc : w.cell? ⟨b, 2, none⟩ = some (.slice none 0 0)) :
    Calls Tryf.prog 9 #[.pointer (some ⟨b, 0, none⟩)] w fun e w' => e = .returned (.int .i64 0) ∧ w' = w := by
  go_enter Tryf.func9, Tryf.ntmps9
  go_wp2
  go_ret
  exact ⟨rfl, rfl⟩

set_option maxHeartbeats 1000000 in
/-- The law: it returns true, whatever F answers. -/
theorem law3 (F : Interp) (src what : ByteArray) (i : Int) (w : World) (hF : F.answers w.tape) (w0 : src.size ≤ maxLen) (w2 : what.size ≤ maxLen) :
    Calls Tryf.prog 3 #[.string src, .int .i64 i, .string what] w fun e w' => e = .returned (.bool true) ∧ Grown w w' := by
  go_enter Tryf.func3, Tryf.ntmps3
  go_wp2_with fail
  refine (bytes4 src what i _ w0 w2).mono ?_
  rintro e w' ⟨⟨b, rfl, hb⟩, rfl⟩
  unfold maxLen at *
  cases b
  · clear hb
    go_wp2
    go_ret
    exact ⟨rfl, Grown.refl _⟩
  have hs := hb rfl
  clear hb
  have k0 : src.size ≤ 1048576 := by omega
  have k2 : what.size ≤ 1048576 := by omega
  clear w0 w2
  by_cases hi : i < 0
  · go_wp2_with fail
    go_ret
    exact ⟨rfl, Grown.refl _⟩
  by_cases hi2 : (src.size : Int) < i
  · go_wp2_with fail
    go_ret
    exact ⟨rfl, Grown.refl _⟩
  go_wp2_with fail
  refine (new5 src i _).mono ?_
  rintro e w2 ⟨rfl, rfl⟩
  go_wp2_with fail
  refine (fail6 F what i _ _ (by exact hF) (by simp [parserObj, go_sem])).mono ?_
  rintro e w2 ⟨rfl, s, rfl⟩
  go_wp2_with (first
    | (go_at_call 7; refine (i7 _ i _ (by simp [parserObj, go_sem, World.cell?_alloc_past])).mono ?_; rintro e w2 ⟨rfl, rfl⟩)
    | (go_at_call 8; refine (src8 _ src _ (by simp [parserObj, go_sem, World.cell?_alloc_past])).mono ?_; rintro e w2 ⟨rfl, rfl⟩)
    | (go_at_call 9; refine (free9 _ _ (by simp [parserObj, go_sem, World.cell?_alloc_past])).mono ?_; rintro e w2 ⟨rfl, rfl⟩))
  go_ret
  refine ⟨rfl, Grown.drew (Grown.alloc (Grown.alloc ?_ _ _) _ _)⟩
  exact Grown.alloc (Grown.refl _) _ _
end Go.Proofs.Qxb6614202aFmt
