/-
  'make([]int, n)' and 'copy' into it: a row of its own with the same numbers.
-/
import Derived.Test.Qxb6608516aA
import Derived.Laws.CopyRow
import Derived.Laws.CopyOwn
namespace Go.Proofs.Qxb6608516a
open Go.RowKit

/-- The row that make([]int, n) lays. -/
def mkI (n : Nat) : Obj := .cells (madeCells #[.int .i64 0] n) 3

theorem info3 : (Try.prog.info? 3).map (fun i => (i.zero, i.size, i.bytes)) = some (some (.int .i64 0), 1, 8) := by kernel_rfl
theorem size3 : (Try.prog.info? 3).map (·.size) = some 1 := by kernel_rfl

theorem run_mkI (n : Nat) (hn : n ≤ 65536) (w : World) : (Instr.makeSlice 24 (.int .i64 (n : Int)) (.int .i64 (n : Int))).run Try.prog w = .ok (.slice (some ⟨w.heap.size, 0, none⟩) n n) (w.alloc (mkI n)) := by
  obtain ⟨i, hi, hx⟩ := Option.map_eq_some_iff.1 info3
  simp only [Prod.mk.injEq] at hx
  obtain ⟨h1, h2, h3⟩ := hx
  have := run_make (P := Try.prog) w 24 3 i _ Try.underlying24 hi h1 .i64 .i64 n n (by omega) (by omega) (by rw [h3]; omega) (by omega)
  rw [h2, Nat.mul_one] at this
  simpa [mkI, Value.cells] using this

/-- n numbers in block g from its start; they may be written. -/
def Own (w : World) (g n : Nat) (F : Nat → Int) : Prop := g < w.heap.size ∧ ∀ i, i < n → w.cell? ⟨g, i, none⟩ = some (.int .i64 (F i)) ∧ w.frozen? ⟨g, i, none⟩ = false

theorem Own.below {w w' : World} {g n B : Nat} {F : Nat → Int} (h : Own w g n F) (hb : Below B w w') (hg : g < B) : Own w' g n F :=
  ⟨Nat.lt_of_lt_of_le h.1 hb.size, fun i hi => ⟨by rw [hb.cell (p := ⟨g, i, none⟩) hg]; exact (h.2 i hi).1, by rw [hb.frozen (p := ⟨g, i, none⟩) hg]; exact (h.2 i hi).2⟩⟩

theorem mk_own (n : Nat) (w : World) : Own (w.alloc (mkI n)) w.heap.size n (fun _ => 0) := by
  refine ⟨by rw [World.size_alloc]; omega, fun i hi => ?_⟩
  unfold mkI
  refine ⟨?_, World.frozen?_alloc_at _ _ _ _ rfl⟩
  rw [World.cell?_alloc_at _ _ _ _ rfl, Array.getElem?_eq_getElem (by rw [size_madeCells]; exact hi)]
  simp [madeCells, Nat.mod_one]

/-- copy(made, xs): all of xs goes over. -/
theorem copy_all (b off n cap : Nat) (F : Nat → Int) (w : World) (hb : b < w.heap.size) (hc : ∀ i, i < n → w.cell? ⟨b, off + i, none⟩ = some (.int .i64 (F i))) :
    ∃ w2, (∀ ty, (Builtin.copy_ #[24, 24] ty #[.slice (some ⟨w.heap.size, 0, none⟩) n n, .slice (some ⟨b, off, none⟩) n cap]).run Try.prog (w.alloc (mkI n)) = .ok (goInt n) w2) ∧ Below w.heap.size w w2 ∧ Own w2 w.heap.size n F := by
  have hg : (w.alloc (mkI n)).heap[w.heap.size]? = some (.cells (madeCells #[.int .i64 0] n) 3 (0, 0)) := (MapKept.heap_alloc w (mkI n)).1
  have hlen : ((List.range n).map fun i => Value.int .i64 (F i)).length = n := by simp
  have hrun := fun ty => run_copy_row (P := Try.prog) (w.alloc (mkI n)) 24 24 ty 3 w.heap.size 0 n n ⟨b, off, none⟩ n cap (madeCells #[.int .i64 0] n) 3 ((List.range n).map fun i => Value.int .i64 (F i)) Try.underlying24 size3 hg
    (by rw [hlen]; exact (Nat.min_self n).symm)
    (fun j v hj => by
      rw [List.getElem?_map] at hj
      obtain ⟨i, hi, rfl⟩ := Option.map_eq_some_iff.1 hj
      obtain ⟨hlt, rfl⟩ := List.getElem?_eq_some_iff.1 hi
      simp at hlt
      rw [List.getElem_range, Go.WideShapes.add_plain, World.cell?_alloc_past _ _ _ hb]
      exact hc j hlt)
    (by rw [hlen, size_madeCells]; omega)
    (fun v hv => by
      obtain ⟨i, _, rfl⟩ := List.mem_map.1 hv
      rfl)
  have hcs : ((madeCells #[.int .i64 0] n).toList.take 0 ++ ((List.range n).map fun i => Value.int .i64 (F i)) ++ (madeCells #[.int .i64 0] n).toList.drop (0 + ((List.range n).map fun i => Value.int .i64 (F i)).length)).toArray = ((List.range n).map fun i => Value.int .i64 (F i)).toArray := by
    rw [hlen, List.drop_eq_nil_of_le (by rw [Array.length_toList, size_madeCells]; omega)]
    simp
  rw [hcs, hlen] at hrun
  refine ⟨_, hrun, below_setRow ((Below.refl _ _).alloc (Nat.le_refl _) _) (Nat.le_refl _) _, ?_⟩
  have hh := setRow_heap (w.alloc (mkI n)) w.heap.size (madeCells #[.int .i64 0] n) ((List.range n).map fun i => Value.int .i64 (F i)).toArray 3 (0, 0) hg
  refine ⟨by simp [World.setRow, World.size_alloc], fun i hi => ⟨?_, ?_⟩⟩
  · unfold World.cell?
    rw [hh]
    simp [hi]
  · unfold World.frozen?
    rw [hh]
    simp
end Go.Proofs.Qxb6608516a
