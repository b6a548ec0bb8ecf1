/-
  A slice of structs of three one-cell fields (string, uint32, uint32) that came in, opened at every index.
-/
import Derived.Test.Qxb6614246aB
import Derived.Deep.Slices
import Derived.ProofKit
namespace Go.Proofs.Qxb6614246a
open Go.ChangeShapes Go.WideShapes Go.Deep

theorem cells30 : Try.prog.cellsOf 30 = 3 := by kernel_rfl
theorem cells9 : Try.prog.cellsOf 9 = 1 := by kernel_rfl
theorem cells23 : Try.prog.cellsOf 23 = 1 := by kernel_rfl

theorem block_lt {w : World} {a : Addr} {v : Value} (h : w.cell? a = some v) : a.block < w.heap.size := by
  by_cases hb : a.block < w.heap.size
  · exact hb
  · rw [World.cell?, Array.getElem?_eq_none (by omega)] at h
    cases h

section
variable {H : Type} {enc : TypeId × Value → H} {w : World} {base : Nat} {spare : Nat → Bool} {held : Bool}

/-- One link's three cells. -/
theorem open_link {a : Addr} {n : Nat} {cs : List Value} {x : DataW H × List MemPlace} (h1 : w.cells? base a 3 = some cs) (h2 : DataW.trod enc Try.prog w base spare held n 30 cs = some x) :
    ∃ (s : ByteArray) (p e : Int), s.size ≤ maxLen ∧ w.cell? (a.add 0) = some (.string s) ∧ w.cell? (a.add 1) = some (.int .u32 p) ∧ w.cell? (a.add 2) = some (.int .u32 e) := by
  obtain ⟨_, hlen, hcell⟩ := World.cells?_some h1
  obtain ⟨xs, k, _, _, _, hxl, hf⟩ := DataW.trod_struct Try.underlying30 h2
  have g0 := hf 0 _ rfl
  have g1 := hf 1 _ rfl
  have g2 := hf 2 _ rfl
  have hl3 : xs.length = 3 := hxl
  have e0 := hcell 0 (by omega)
  have e1 := hcell 1 (by omega)
  have e2 := hcell 2 (by omega)
  match xs, hl3, cs, hlen with
  | [y0, y1, y2], _, [v0, v1, v2], _ =>
    simp [cells9, cells23] at g0 g1 g2
    obtain ⟨s, q0, _, hs⟩ := DataW.trod_string Try.underlying9 g0
    obtain ⟨p, q1, _, _⟩ := DataW.trod_int Try.underlying23 g1
    obtain ⟨e, q2, _, _⟩ := DataW.trod_int Try.underlying23 g2
    simp at q0 q1 q2
    subst q0 q1 q2
    exact ⟨s, p, e, hs, by simpa using e0, by simpa using e1, by simpa using e2⟩

/-- A slice of links, opened. -/
theorem open_links {a0 : Option Addr} {len cap : Nat} {fuel : Nat} {x : DataW H × List MemPlace} (h : DataW.trod enc Try.prog w base spare held fuel 22 [.slice a0 len cap] = some x) :
    ∃ (N : Nat → ByteArray) (A E : Nat → Int), len ≤ maxLen ∧ (∀ i, i < len → (N i).size ≤ maxLen) ∧ Row w (.slice a0 len cap) len N A E := by
  rcases open_slice Try.underlying22 h with ⟨hcs, _⟩ | ⟨a, l, c, m, n, D, Pl, hcs, _, hl, hm, hmm, _, hx⟩
  · simp at hcs
    obtain ⟨rfl, rfl, rfl⟩ := hcs
    exact ⟨fun _ => ByteArray.empty, fun _ => 0, fun _ => 0, Nat.zero_le _, fun i hi => absurd hi (Nat.not_lt_zero _), Or.inl ⟨rfl, _, _, rfl⟩⟩
  · simp at hcs
    obtain ⟨rfl, rfl, rfl⟩ := hcs
    have hlm : len ≤ m := by rw [hmm]; split <;> omega
    have each : ∀ i, i < len → ∃ q : ByteArray × Int × Int, q.1.size ≤ maxLen ∧ w.cell? (a.add (i * 3)) = some (.string q.1) ∧ w.cell? (a.add (i * 3 + 1)) = some (.int .u32 q.2.1) ∧ w.cell? (a.add (i * 3 + 2)) = some (.int .u32 q.2.2) := by
      intro i hi
      obtain ⟨cs', h1, h2⟩ := hx i (by omega)
      rw [cells30] at h1
      obtain ⟨s, p, e, hs, c0, c1, c2⟩ := open_link h1 h2
      rw [add_add] at c0 c1 c2
      exact ⟨(s, p, e), hs, c0, c1, c2⟩
    obtain ⟨q, hq⟩ := choose_lt each
    refine ⟨fun i => (q i).1, fun i => (q i).2.1, fun i => (q i).2.2, by omega, fun i hi => (hq i hi).1, ?_⟩
    by_cases h0 : len = 0
    · subst h0; exact Or.inl ⟨rfl, _, _, rfl⟩
    · have hc := (hq 0 (by omega)).2.1
      obtain ⟨b, off, spot⟩ := a
      have hspot : spot = none := by simpa [Addr.add] using World.cell?_spot hc
      subst hspot
      refine Or.inr ⟨b, off, cap, by simpa [Addr.add] using block_lt hc, rfl, fun i hi => ?_⟩
      obtain ⟨_, c0, c1, c2⟩ := hq i hi
      rw [add_plain] at c0 c1 c2
      exact ⟨c0, by rw [Nat.add_assoc]; exact c1, by rw [Nat.add_assoc]; exact c2⟩
end
end Go.Proofs.Qxb6614246a
