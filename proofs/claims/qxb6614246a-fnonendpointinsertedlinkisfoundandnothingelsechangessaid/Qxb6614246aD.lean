/-
  zzPeers: the links' fields, one to one, in a row of its own.
-/
import Derived.Test.Qxb6614246aC
import Derived.Deep.RegionHeld3
namespace Go.Proofs.Qxb6614246a
open Go.RowKit

theorem hid {p : Prop} (h : p) : Hid p := h

/-! ### The row that make lays; a peer stored into it -/
/-- The row that make([]peerTLV, n) lays. -/
def mkObj (n : Nat) : Obj := .cells (madeCells (Value.agg #[.string ByteArray.empty, .int .u32 0, .int .u32 0]).cells (n * 3)) 32

theorem info32 : (Try.prog.info? 32).map (fun i => (i.zero, i.size, i.bytes)) = some (some (.agg #[.string ByteArray.empty, .int .u32 0, .int .u32 0]), 3, 24) := by kernel_rfl

theorem run_mk (n : Nat) (hn : n ≤ 1048577) (w : World) : (Instr.makeSlice 27 (.int .i64 (n : Int)) (.int .i64 (n : Int))).run Try.prog w = .ok (.slice (some ⟨w.heap.size, 0, none⟩) n n) (w.alloc (mkObj n)) := by
  obtain ⟨i, hi, hx⟩ := Option.map_eq_some_iff.1 info32
  simp only [Prod.mk.injEq] at hx
  obtain ⟨h1, h2, h3⟩ := hx
  have := run_make (P := Try.prog) w 27 32 i _ Try.underlying27 hi h1 .i64 .i64 n n (by omega) (by omega) (by rw [h3]; omega) (by omega)
  rw [h2] at this
  simpa [mkObj] using this

/-- m cells of block G are there and may be written. -/
def Room (w : World) (G m : Nat) : Prop := ∀ j, j < m → (∃ v, w.cell? ⟨G, j, none⟩ = some v) ∧ w.frozen? ⟨G, j, none⟩ = false

theorem mk_room (n : Nat) (w : World) : Room (w.alloc (mkObj n)) w.heap.size (n * 3) := by
  intro j hj
  unfold mkObj
  refine ⟨?_, World.frozen?_alloc_at _ _ _ _ rfl⟩
  rw [World.cell?_alloc_at _ _ _ _ rfl]
  exact ⟨_, Array.getElem?_eq_getElem (by rw [size_madeCells]; exact hj)⟩

theorem cOther {w : World} {a b : Addr} {v : Value} (h : a ≠ b) : (w.setCell a v).cell? b = w.cell? b := World.cell?_setCell_other (h := h) ..
theorem cSame {w : World} {a : Addr} {u v : Value} (h : w.cell? a = some u) : (w.setCell a v).cell? a = some v := World.cell?_setCell_same (h := h) ..

/-- A peer stored at j. -/
def put3 (w : World) (G j : Nat) (s : ByteArray) (a e : Int) : World :=
  ((w.setCell ⟨G, j, none⟩ (.string s)).setCell ⟨G, j + 1, none⟩ (.int .u32 a)).setCell ⟨G, j + 2, none⟩ (.int .u32 e)

section
variable {w : World} {G j : Nat} {s : ByteArray} {a e : Int}
theorem put3_size : (put3 w G j s a e).heap.size = w.heap.size := by simp [put3]
theorem put3_out {i : Nat} (h : i < j ∨ j + 2 < i) : (put3 w G j s a e).cell? ⟨G, i, none⟩ = w.cell? ⟨G, i, none⟩ := by
  unfold put3
  rw [cOther (fun hh => ?_), cOther (fun hh => ?_), cOther (fun hh => ?_)]
  all_goals (have := congrArg Addr.off hh; simp only at this; omega)
theorem put3_0 (h : ∃ v, w.cell? ⟨G, j, none⟩ = some v) : (put3 w G j s a e).cell? ⟨G, j, none⟩ = some (.string s) := by
  obtain ⟨v, hv⟩ := h
  unfold put3
  rw [cOther (by simp), cOther (by simp), cSame hv]
theorem put3_1 (h : ∃ v, w.cell? ⟨G, j + 1, none⟩ = some v) : (put3 w G j s a e).cell? ⟨G, j + 1, none⟩ = some (.int .u32 a) := by
  obtain ⟨v, hv⟩ := h
  unfold put3
  rw [cOther (by simp), cSame (by rw [cOther (by simp)]; exact hv)]
theorem put3_2 (h : ∃ v, w.cell? ⟨G, j + 2, none⟩ = some v) : (put3 w G j s a e).cell? ⟨G, j + 2, none⟩ = some (.int .u32 e) := by
  obtain ⟨v, hv⟩ := h
  unfold put3
  rw [cSame (by rw [cOther (by simp), cOther (by simp)]; exact hv)]
theorem put3_frozen (p : Addr) : (put3 w G j s a e).frozen? p = w.frozen? p := by
  unfold put3; rw [World.frozen?_setCell, World.frozen?_setCell, World.frozen?_setCell]
theorem put3_below {B : Nat} {W : World} (h : Below B W w) (hG : B ≤ G) : Below B W (put3 w G j s a e) :=
  ((h.setCell (p := ⟨G, j, none⟩) hG _).setCell (p := ⟨G, j + 1, none⟩) hG _).setCell (p := ⟨G, j + 2, none⟩) hG _
theorem put3_room {m : Nat} (h : Room w G m) (hj : j + 2 < m) : Room (put3 w G j s a e) G m := by
  intro i hi
  refine ⟨?_, by rw [put3_frozen]; exact (h i hi).2⟩
  by_cases h0 : i < j ∨ j + 2 < i
  · rw [put3_out h0]; exact (h i hi).1
  · rcases (by omega : i = j ∨ i = j + 1 ∨ i = j + 2) with rfl | rfl | rfl
    · exact ⟨_, put3_0 (h _ hi).1⟩
    · exact ⟨_, put3_1 (h _ hi).1⟩
    · exact ⟨_, put3_2 (h _ hi).1⟩
end

/-- What a round leaves behind: the peer stored, a new block, a draw. -/
theorem room_step {w : World} {G m : Nat} (h : Room w G m) (hG : G < w.heap.size) (o : Obj) : Room (w.alloc o).drew G m := fun i hi => by
  refine ⟨?_, ?_⟩
  · show ∃ v, (w.alloc o).cell? _ = some v
    rw [World.cell?_alloc_past _ _ _ hG]; exact (h i hi).1
  · show (w.alloc o).frozen? _ = false
    rw [World.frozen?_alloc_past _ _ _ hG]; exact (h i hi).2
theorem peers_step {w : World} {G off n : Nat} {N : Nat → ByteArray} {A E : Nat → Int} (h : Peers w G off n N A E) (hG : G < w.heap.size) (o : Obj) : Peers (w.alloc o).drew G off n N A E := fun i hi => by
  obtain ⟨h0, h1, h2⟩ := h i hi
  refine ⟨?_, ?_, ?_⟩
  · show (w.alloc o).cell? _ = _
    rw [World.cell?_alloc_past _ _ _ hG]; exact h0
  · show (w.alloc o).cell? _ = _
    rw [World.cell?_alloc_past _ _ _ hG]; exact h1
  · show (w.alloc o).cell? _ = _
    rw [World.cell?_alloc_past _ _ _ hG]; exact h2
/-- One peer more. -/
theorem peers_put {w : World} {G k m : Nat} {N : Nat → ByteArray} {A E : Nat → Int} (h : Peers w G 0 k N A E) (hr : Room w G m) (hk : k * 3 + 2 < m) : Peers (put3 w G (k * 3) (N k) (A k) (E k)) G 0 (k + 1) N A E := fun i hi => by
  rw [Nat.zero_add]
  by_cases h0 : i < k
  · obtain ⟨h1, h2, h3⟩ := h i h0
    rw [Nat.zero_add] at h1 h2 h3
    rw [put3_out (by omega), put3_out (by omega), put3_out (by omega)]
    exact ⟨h1, h2, h3⟩
  · obtain rfl : i = k := by omega
    exact ⟨put3_0 (hr _ (by omega)).1, put3_1 (hr _ (by omega)).1, put3_2 (hr _ hk).1⟩

set_option maxHeartbeats 1000000 in
theorem peers10_some (b off n cap : Nat) (N : Nat → ByteArray) (A E : Nat → Int) (w : World) (hg : b < w.heap.size) (hp : Peers w b off n N A E) (hn : n ≤ 1048576) :
    Calls Try.prog 10 #[.slice (some ⟨b, off, none⟩) n cap] w fun r w' => r = .returned (.slice (some ⟨w.heap.size, 0, none⟩) n n) ∧ w.heap.size < w'.heap.size ∧ Peers w' w.heap.size 0 n N A E ∧ Below w.heap.size w w' := by
  have Hp := hid hp
  clear hp
  have hmk := run_mk n (by omega)
  have heq := fun (w : World) (a : Option Addr) (n c : Nat) => Lib.run_eql_slice_nil (P := Try.prog) w 22 30 a n c 0 0 Try.underlying22
  go_enter Try.func10, Try.ntmps10
  go_wp2_with fail
  clear hmk heq
  go_loopw [4] (fun i wr => ∃ k : Nat, k ≤ n ∧ i = .int .i64 k ∧ w.heap.size < wr.heap.size ∧ Below w.heap.size w wr ∧ Room wr w.heap.size (n * 3) ∧ Peers wr w.heap.size 0 k N A E) (fun i _ => n - (intOf i).toNat)
  case atStart => exact ⟨0, by omega, rfl, by simp, (Below.refl _ _).alloc (Nat.le_refl _) _, mk_room n w, fun i hi => absurd hi (Nat.not_lt_zero _)⟩
  case round =>
    obtain ⟨k, hk, rfl, hsz, hb, hro, hpe⟩ := hrel
    have Hro := hid hro
    have Hpe := hid hpe
    have Hb := hid hb
    have Hp' := hid (Hp.out.below hb hg)
    clear hro hpe hb
    by_cases hlt : k < n
    · obtain ⟨⟨v0, d0⟩, f0⟩ := Hro.out (k * 3) (by omega)
      obtain ⟨⟨v1, d1⟩, f1⟩ := Hro.out (k * 3 + 1) (by omega)
      obtain ⟨⟨v2, d2⟩, f2⟩ := Hro.out (k * 3 + 2) (by omega)
      obtain ⟨c0, c1, c2⟩ := Hp'.out k hlt
      have hg' : b < wr.heap.size := Nat.lt_trans hg hsz
      go_wp2_with fail
      go_region_held3 (fun wx => wx.cell? ⟨b, off + k * 3, none⟩ = some (.string (N k)) ∧ wx.cell? ⟨b, off + k * 3 + 1, none⟩ = some (.int .u32 (A k)) ∧ wx.cell? ⟨b, off + k * 3 + 2, none⟩ = some (.int .u32 (E k))) (simp [*, go_sem, World.cell?_alloc_past])
        (first | (go_at_call 11; refine (newPeer11 _ _ _ _).mono ?_; rintro r w1 ⟨rfl, rfl⟩))
      go_wp2_with fail
      go_roundw
      case rel =>
        have hs3 : w.heap.size < (put3 wr w.heap.size (k * 3) (N k) (A k) (E k)).heap.size := by rw [put3_size]; exact hsz
        refine ⟨k + 1, by omega, by go_num, ?_, ?_, ?_, ?_⟩
        · simp; omega
        · exact ((put3_below Hb.out (Nat.le_refl _)).alloc (by rw [put3_size]; omega) _).drew
        · exact room_step (put3_room Hro.out (by omega)) hs3 _
        · exact peers_step (peers_put Hpe.out Hro.out (by omega)) hs3 _
      case measure => simp [intOf]; omega
    · obtain rfl : k = n := by omega
      go_wp2_with fail
      go_ret
      exact ⟨rfl, hsz, Hpe.out, Hb.out⟩
end Go.Proofs.Qxb6614246a
