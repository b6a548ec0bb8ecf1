/-
  zzPeers at every slice of links.
-/
import Derived.Test.Qxb6614246aD
namespace Go.Proofs.Qxb6614246a
open Go.RowKit

/-- What zzPeers hands back: an empty slice (nil or not), or a new row. -/
def Made (w : World) (sv : Value) (n : Nat) (N : Nat → ByteArray) (A E : Nat → Int) : Prop :=
  (n = 0 ∧ ∃ a, (a = none ∨ ∃ g, a = some (⟨g, 0, none⟩ : Addr)) ∧ sv = .slice a 0 0) ∨ ∃ g, g < w.heap.size ∧ sv = .slice (some ⟨g, 0, none⟩) n n ∧ Peers w g 0 n N A E

theorem Made.row {w : World} {sv : Value} {n : Nat} {N : Nat → ByteArray} {A E : Nat → Int} (h : Made w sv n N A E) : Row w sv n N A E := by
  rcases h with ⟨h, a, _, h2⟩ | ⟨g, h1, h2, h3⟩
  · exact Or.inl ⟨h, a, 0, h2⟩
  · exact Or.inr ⟨g, 0, n, h1, h2, h3⟩

theorem Made.below {w w' : World} {sv : Value} {n : Nat} {N : Nat → ByteArray} {A E : Nat → Int} (h : Made w sv n N A E) (hb : Below w.heap.size w w') : Made w' sv n N A E := by
  rcases h with h | ⟨g, h1, h2, h3⟩
  · exact Or.inl h
  · exact Or.inr ⟨g, Nat.lt_of_lt_of_le h1 hb.size, h2, h3.below hb h1⟩

set_option maxHeartbeats 400000 in
theorem peers10_nil (cap : Nat) (w : World) :
    Calls Try.prog 10 #[.slice none 0 cap] w fun r w' => r = .returned (.slice none 0 0) ∧ w' = w := by
  have heq := fun (w : World) (a : Option Addr) (n c : Nat) => Lib.run_eql_slice_nil (P := Try.prog) w 22 30 a n c 0 0 Try.underlying22
  go_enter Try.func10, Try.ntmps10
  go_wp2_with fail
  go_ret
  exact ⟨rfl, rfl⟩

set_option maxHeartbeats 400000 in
theorem peers10_empty (a : Addr) (cap : Nat) (w : World) :
    Calls Try.prog 10 #[.slice (some a) 0 cap] w fun r w' => r = .returned (.slice (some ⟨w.heap.size, 0, none⟩) 0 0) ∧ w' = w.alloc (mkObj 0) := by
  have hmk : ∀ w : World, (Instr.makeSlice 27 (.int .i64 0) (.int .i64 0)).run Try.prog w = .ok (.slice (some ⟨w.heap.size, 0, none⟩) 0 0) (w.alloc (mkObj 0)) := fun w => run_mk 0 (by omega) w
  have heq := fun (w : World) (a : Option Addr) (n c : Nat) => Lib.run_eql_slice_nil (P := Try.prog) w 22 30 a n c 0 0 Try.underlying22
  go_enter Try.func10, Try.ntmps10
  go_wp2_with fail
  clear hmk heq
  go_loopw [4] (fun i wr => i = .int .i64 0 ∧ wr = w.alloc (mkObj 0)) (fun _ _ => 0)
  case atStart => exact ⟨rfl, rfl⟩
  case round =>
    obtain ⟨rfl, rfl⟩ := hrel
    go_wp2_with fail
    go_ret
    exact ⟨rfl, rfl⟩

theorem peers10 (sv : Value) (n : Nat) (N : Nat → ByteArray) (A E : Nat → Int) (w : World) (hr : Row w sv n N A E) (hn : n ≤ 1048576) :
    Calls Try.prog 10 #[sv] w fun r w' => (∃ sv', r = .returned sv' ∧ Made w' sv' n N A E) ∧ Below w.heap.size w w' := by
  rcases hr with ⟨rfl, a, cap, rfl⟩ | ⟨g, off, cap, hg, rfl, hp⟩
  · cases a with
    | none =>
      refine (peers10_nil cap w).mono ?_
      rintro r w1 ⟨rfl, rfl⟩
      exact ⟨⟨_, rfl, Or.inl ⟨rfl, none, Or.inl rfl, rfl⟩⟩, Below.refl _ _⟩
    | some a =>
      refine (peers10_empty a cap w).mono ?_
      rintro r w1 ⟨rfl, rfl⟩
      exact ⟨⟨_, rfl, Or.inl ⟨rfl, some _, Or.inr ⟨_, rfl⟩, rfl⟩⟩, (Below.refl _ _).alloc (Nat.le_refl _) _⟩
  · refine (peers10_some g off n cap N A E w hg hp hn).mono ?_
    rintro r w1 ⟨rfl, h1, h2, h3⟩
    exact ⟨⟨_, rfl, Or.inr ⟨_, h1, rfl, h2⟩⟩, h3⟩
end Go.Proofs.Qxb6614246a
