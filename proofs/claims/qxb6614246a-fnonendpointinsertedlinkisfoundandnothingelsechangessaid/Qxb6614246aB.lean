/-
  slices.BinarySearchFunc at []peerTLV, onEndpoint, ZZonEndpoint: over a row that is sorted by endpoint they say whether the endpoint is among them.
-/
import Derived.Test.Qxb6614246aA
namespace Go.Proofs.Qxb6614246a
open Go.RowKit

/-- The cells of n peers behind ⟨g, off⟩. -/
def Peers (w : World) (g off n : Nat) (N : Nat → ByteArray) (A E : Nat → Int) : Prop :=
  ∀ i, i < n → w.cell? ⟨g, off + i * 3, none⟩ = some (.string (N i)) ∧ w.cell? ⟨g, off + i * 3 + 1, none⟩ = some (.int .u32 (A i)) ∧ w.cell? ⟨g, off + i * 3 + 2, none⟩ = some (.int .u32 (E i))

theorem Peers.below {w w' : World} {g off n B : Nat} {N : Nat → ByteArray} {A E : Nat → Int} (h : Peers w g off n N A E) (hb : Below B w w') (hg : g < B) : Peers w' g off n N A E := fun i hi => by
  obtain ⟨h0, h1, h2⟩ := h i hi
  exact ⟨by rw [hb.cell (p := ⟨g, _, none⟩) hg]; exact h0, by rw [hb.cell (p := ⟨g, _, none⟩) hg]; exact h1, by rw [hb.cell (p := ⟨g, _, none⟩) hg]; exact h2⟩

theorem ret_two {i : Int} {b c : Bool} (h : b = c) : Ending.returned (.tuple #[.int .i64 i, .bool b]) = .returned (.tuple #[.int .i64 i, .bool c]) := by rw [h]

set_option maxHeartbeats 1000000 in
theorem bsearch25 (g off n cap : Nat) (N : Nat → ByteArray) (A E : Nat → Int) (q : Int) (w : World) (hn : n ≤ 1048577) (hg : g < w.heap.size) (hp : Peers w g off n N A E) (hs : Asc E n) :
    Calls Try.prog 25 #[.slice (some ⟨g, off, none⟩) n cap, .int .u32 q, .func (.func 26) #[] #[]] w fun r w' => (∃ i : Int, r = .returned (.tuple #[.int .i64 i, .bool (has E n q)])) ∧ Below w.heap.size w w' := by
  have Hs : Hid (Asc E n) := hs
  clear hs
  go_enter Try.func25, Try.ntmps25
  go_wp2_with fail
  go_loopw [9, 10] (fun i j wr => ∃ a b : Nat, a ≤ b ∧ b ≤ n ∧ i = .int .i64 a ∧ j = .int .i64 b ∧ (∀ k, k < a → E k < q) ∧ (∀ k, b ≤ k → k < n → q ≤ E k) ∧ Below w.heap.size w wr) (fun i j _ => (intOf j).toNat - (intOf i).toNat)
  case atStart => exact ⟨0, n, by omega, by omega, rfl, rfl, by intro k hk; omega, by intro k h1 h2; omega, Below.refl _ _⟩
  case round =>
    obtain ⟨a, b, hab, hbn, rfl, rfl, hlo, hhi, hb⟩ := hrel
    have Hlo : Hid _ := hlo
    have Hhi : Hid _ := hhi
    have Hp : Hid _ := hp.below hb hg
    have Hb : Hid _ := hb
    clear hlo hhi hp hb
    by_cases hlt : a < b
    · have hm1 : a ≤ (a + b) / 2 := by omega
      have hm2 : (a + b) / 2 < b := by omega
      have c0 : wr.cell? ⟨g, off + (a + b) / 2 * 3, none⟩ = some (.string (N ((a + b) / 2))) := (Hp.out _ (by omega)).1
      have c1 : wr.cell? ⟨g, off + (a + b) / 2 * 3 + 1, none⟩ = some (.int .u32 (A ((a + b) / 2))) := (Hp.out _ (by omega)).2.1
      have c2 : wr.cell? ⟨g, off + (a + b) / 2 * 3 + 2, none⟩ = some (.int .u32 (E ((a + b) / 2))) := (Hp.out _ (by omega)).2.2
      by_cases he : E ((a + b) / 2) < q
      · have hk := cmpI_lt he
        go_wp2_with fail
        refine (closure26 _ _ _ q _).mono ?_
        rintro r w1 ⟨rfl, rfl⟩
        go_wp2_with fail
        go_roundw
        case rel =>
          refine ⟨(a + b) / 2 + 1, b, by omega, hbn, by go_num, rfl, ?_, Hhi.out, Hb.out.alloc Hb.out.size _⟩
          intro k hk
          have := Hs.out k ((a + b) / 2) (by omega) (by omega)
          omega
        case measure => simp [intOf]; omega
      · have hk : 0 ≤ cmpI (E ((a + b) / 2)) q := cmpI_nonneg he
        have he' : q ≤ E ((a + b) / 2) := by omega
        go_wp2_with fail
        refine (closure26 _ _ _ q _).mono ?_
        rintro r w1 ⟨rfl, rfl⟩
        go_wp2_with fail
        go_roundw
        case rel =>
          refine ⟨a, (a + b) / 2, by omega, by omega, rfl, by go_num, Hlo.out, ?_, Hb.out.alloc Hb.out.size _⟩
          intro k hk hkn
          have := Hs.out ((a + b) / 2) k (by omega) (by omega)
          omega
        case measure => simp [intOf]; omega
    · obtain rfl : a = b := by omega
      by_cases hlt2 : a < n
      · have c0 : wr.cell? ⟨g, off + a * 3, none⟩ = some (.string (N a)) := (Hp.out _ (by omega)).1
        have c1 : wr.cell? ⟨g, off + a * 3 + 1, none⟩ = some (.int .u32 (A a)) := (Hp.out _ (by omega)).2.1
        have c2 : wr.cell? ⟨g, off + a * 3 + 2, none⟩ = some (.int .u32 (E a)) := (Hp.out _ (by omega)).2.2
        go_wp2_with fail
        refine (closure26 _ _ _ q _).mono ?_
        rintro r w1 ⟨rfl, rfl⟩
        go_wp2_with fail
        go_ret2
        exact ⟨⟨a, ret_two (found_at Hs.out hlt2 Hlo.out Hhi.out)⟩, Hb.out.alloc Hb.out.size _⟩
      · go_wp2_with fail
        go_ret2
        exact ⟨⟨a, ret_two (found_none hlt2 Hlo.out)⟩, Hb.out⟩

set_option maxHeartbeats 400000 in
theorem bsearch25_none (a : Option Addr) (cap : Nat) (q : Int) (w : World) :
    Calls Try.prog 25 #[.slice a 0 cap, .int .u32 q, .func (.func 26) #[] #[]] w fun r w' => r = .returned (.tuple #[.int .i64 0, .bool false]) ∧ w' = w := by
  go_enter Try.func25, Try.ntmps25
  go_wp2_with fail
  go_loopw [9, 10] (fun i j wr => i = .int .i64 0 ∧ j = .int .i64 0 ∧ wr = w) (fun _ _ _ => 0)
  case atStart => exact ⟨rfl, rfl, rfl⟩
  case round =>
    obtain ⟨rfl, rfl, rfl⟩ := hrel
    go_wp2_with fail
    go_ret2
    exact ⟨rfl, rfl⟩

/-- A slice of n peers: empty, or its cells lie in memory. -/
def Row (w : World) (sv : Value) (n : Nat) (N : Nat → ByteArray) (A E : Nat → Int) : Prop :=
  (n = 0 ∧ ∃ a cap, sv = .slice a 0 cap) ∨ ∃ g off cap, g < w.heap.size ∧ sv = .slice (some ⟨g, off, none⟩) n cap ∧ Peers w g off n N A E

theorem Row.below {w w' : World} {sv : Value} {n : Nat} {N : Nat → ByteArray} {A E : Nat → Int} (h : Row w sv n N A E) (hb : Below w.heap.size w w') : Row w' sv n N A E := by
  rcases h with h | ⟨g, off, cap, hg, h1, h2⟩
  · exact Or.inl h
  · exact Or.inr ⟨g, off, cap, Nat.lt_of_lt_of_le hg hb.size, h1, h2.below hb hg⟩

set_option maxHeartbeats 400000 in
theorem on23 (sv : Value) (n : Nat) (N : Nat → ByteArray) (A E : Nat → Int) (q : Int) (w : World) (hr : Row w sv n N A E) (hn : n ≤ 1048577) (hs : Asc E n) :
    Calls Try.prog 23 #[sv, .int .u32 q] w fun r w' => r = .returned (.bool (has E n q)) ∧ Below w.heap.size w w' := by
  rcases hr with ⟨rfl, a, cap, rfl⟩ | ⟨g, off, cap, hg, rfl, hp⟩
  · go_enter Try.func23, Try.ntmps23
    go_wp2_with fail
    refine (bsearch25_none a cap q _).mono ?_
    rintro r w1 ⟨rfl, rfl⟩
    go_wp2_with fail
    go_ret
    exact ⟨by rw [has_false (fun k hk => absurd hk (Nat.not_lt_zero _))]; rfl, Below.refl _ _⟩
  · have Hp : Hid _ := hp
    have Hs : Hid _ := hs
    clear hp hs
    go_enter Try.func23, Try.ntmps23
    go_wp2_with fail
    refine (bsearch25 g off n cap N A E q _ hn hg Hp.out Hs.out).mono ?_
    rintro r w1 ⟨⟨i, rfl⟩, hb⟩
    go_wp2_with fail
    go_ret
    exact ⟨rfl, hb⟩

set_option maxHeartbeats 400000 in
theorem on12 (sv : Value) (n : Nat) (N : Nat → ByteArray) (A E : Nat → Int) (q : Int) (w : World) (hr : Row w sv n N A E) (hn : n ≤ 1048577) (hs : Asc E n) :
    Calls Try.prog 12 #[sv, .int .u32 q] w fun r w' => r = .returned (.bool (has E n q)) ∧ Below w.heap.size w w' := by
  have Hr : Hid _ := hr
  have Hs : Hid _ := hs
  clear hr hs
  go_enter Try.func12, Try.ntmps12
  go_wp2_with fail
  refine (on23 sv n N A E q _ Hr.out hn Hs.out).mono ?_
  rintro r w1 ⟨rfl, hb⟩
  go_wp2_with fail
  go_ret
  exact ⟨rfl, hb⟩
end Go.Proofs.Qxb6614246a
