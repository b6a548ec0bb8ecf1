/-
  The plain law: membership in a sorted row, no Go in sight.
-/
namespace Go.Proofs.Qxb6614246a

/-- Is q among E 0, .., E (n - 1)? -/
def has (E : Nat → Int) (n : Nat) (q : Int) : Bool := (List.range n).any fun k => E k == q

theorem has_iff {E : Nat → Int} {n : Nat} {q : Int} : has E n q = true ↔ ∃ k, k < n ∧ E k = q := by
  unfold has
  rw [List.any_eq_true]
  constructor
  · rintro ⟨k, h1, h2⟩
    exact ⟨k, List.mem_range.1 h1, by simpa using h2⟩
  · rintro ⟨k, h1, h2⟩
    exact ⟨k, List.mem_range.2 h1, by simpa using h2⟩

theorem has_false {E : Nat → Int} {n : Nat} {q : Int} (h : ∀ k, k < n → E k ≠ q) : has E n q = false := by
  cases hb : has E n q with
  | false => rfl
  | true =>
    obtain ⟨k, h1, h2⟩ := has_iff.1 hb
    exact absurd h2 (h k h1)

theorem has_true {E : Nat → Int} {n : Nat} {q : Int} (k : Nat) (h1 : k < n) (h2 : E k = q) : has E n q = true := has_iff.2 ⟨k, h1, h2⟩

theorem has_congr {E F : Nat → Int} {n : Nat} {q : Int} (h : ∀ k, k < n → E k = F k) : has E n q = has F n q := by
  cases hb : has F n q with
  | true =>
    obtain ⟨k, h1, h2⟩ := has_iff.1 hb
    exact has_true k h1 (by rw [h k h1]; exact h2)
  | false =>
    refine has_false fun k h1 h2 => ?_
    have := has_true (E := F) (q := q) k h1 ((h k h1).symm.trans h2)
    rw [hb] at this; cases this

/-- Sorted. -/
def Asc (E : Nat → Int) (n : Nat) : Prop := ∀ i j, i ≤ j → j < n → E i ≤ E j

theorem asc_of_step {E : Nat → Int} {n : Nat} (h : ∀ i, i + 1 < n → E i ≤ E (i + 1)) : Asc E n := by
  intro i j hij
  obtain ⟨d, rfl⟩ := Nat.exists_eq_add_of_le hij
  induction d with
  | zero => intro _; exact Int.le_refl _
  | succ d ih =>
    intro hj
    have h1 := ih (by omega) (by omega)
    have h2 := h (i + d) (by omega)
    exact Int.le_trans h1 h2

/-- cmp.Compare on two integers. -/
def cmpI (x y : Int) : Int := if x < y then -1 else if y < x then 1 else 0
theorem cmpI_lt {x y : Int} (h : x < y) : cmpI x y = -1 := by unfold cmpI; rw [if_pos h]
theorem cmpI_gt {x y : Int} (h : y < x) : cmpI x y = 1 := by unfold cmpI; rw [if_neg (by omega), if_pos h]
theorem cmpI_eq {x y : Int} (h : x = y) : cmpI x y = 0 := by unfold cmpI; rw [if_neg (by omega), if_neg (by omega)]
theorem cmpI_nonneg {x y : Int} (h : ¬ x < y) : 0 ≤ cmpI x y := by
  by_cases h2 : y < x
  · rw [cmpI_gt h2]; decide
  · rw [cmpI_eq (by omega)]; decide

/-- The search has come to a: what is before is less than q, what is from a on is not. -/
theorem found_at {E : Nat → Int} {n a : Nat} {q : Int} (hs : Asc E n) (ha : a < n) (hlo : ∀ k, k < a → E k < q) (hhi : ∀ k, a ≤ k → k < n → q ≤ E k) : (cmpI (E a) q == 0) = has E n q := by
  have h1 := hhi a (Nat.le_refl _) ha
  by_cases he : E a = q
  · rw [cmpI_eq he, has_true a ha he]; rfl
  · rw [cmpI_gt (by omega), has_false (fun k hk => ?_)]
    · rfl
    · by_cases hka : k < a
      · have := hlo k hka; omega
      · have := hs a k (by omega) hk; omega
theorem found_none {E : Nat → Int} {n a : Nat} {q : Int} (ha : ¬ a < n) (hlo : ∀ k, k < a → E k < q) : false = has E n q :=
  (has_false fun k hk => by have := hlo k (by omega); omega).symm

/-! ### The cut -/
theorem has_cut (E : Nat → Int) (n k : Nat) (q : Int) (hk : k ≤ n) : has E n q = (has E k q || has (fun i => E (k + i)) (n - k) q) := by
  cases hb : has E n q with
  | true =>
    obtain ⟨j, h1, h2⟩ := has_iff.1 hb
    by_cases hj : j < k
    · rw [has_true j hj h2]; rfl
    · rw [has_true (E := fun i => E (k + i)) (n := n - k) (j - k) (by omega) (by show E (k + (j - k)) = q; rw [show k + (j - k) = j from by omega]; exact h2), Bool.or_true]
  | false =>
    have h0 : ∀ j, j < n → E j ≠ q := fun j h1 h2 => by rw [has_true j h1 h2] at hb; cases hb
    rw [has_false fun j hj => h0 j (by omega), has_false fun j hj => h0 (k + j) (by omega)]; rfl

theorem asc_left {E : Nat → Int} {n k : Nat} (h : Asc E n) (hk : k ≤ n) : Asc E k := fun i j h1 h2 => h i j h1 (by omega)
theorem asc_right {E : Nat → Int} {n k : Nat} (h : Asc E n) (hk : k ≤ n) : Asc (fun i => E (k + i)) (n - k) := fun i j h1 h2 => h (k + i) (k + j) (by omega) (by omega)

/-! ### The insertion -/
/-- The row with x put in at place p. -/
def ins {α : Type} (E : Nat → α) (p : Nat) (x : α) (i : Nat) : α := if i < p then E i else if i = p then x else E (i - 1)
theorem ins_lt {α : Type} (E : Nat → α) (p : Nat) (x : α) {i : Nat} (h : i < p) : ins E p x i = E i := by unfold ins; rw [if_pos h]
theorem ins_eq {α : Type} (E : Nat → α) (p : Nat) (x : α) : ins E p x p = x := by unfold ins; rw [if_neg (by omega), if_pos rfl]
theorem ins_gt {α : Type} (E : Nat → α) (p : Nat) (x : α) {i : Nat} (h : p < i) : ins E p x i = E (i - 1) := by unfold ins; rw [if_neg (by omega), if_neg (by omega)]

theorem asc_ins {E : Nat → Int} {n p : Nat} {x : Int} (h : Asc E n) (hp : p ≤ n) (hlo : ∀ k, k < p → E k ≤ x) (hhi : ∀ k, p ≤ k → k < n → x ≤ E k) : Asc (ins E p x) (n + 1) := by
  intro i j hij hj
  rcases Nat.lt_trichotomy i p with hi | hi | hi
  · rw [ins_lt E p x hi]
    rcases Nat.lt_trichotomy j p with hj' | hj' | hj'
    · rw [ins_lt E p x hj']; exact h i j hij (by omega)
    · subst hj'; rw [ins_eq]; exact hlo i hi
    · rw [ins_gt E p x hj']; exact h i (j - 1) (by omega) (by omega)
  · subst hi
    rw [ins_eq]
    rcases Nat.lt_or_ge i j with hj' | hj'
    · rw [ins_gt E i x hj']; exact hhi (j - 1) (by omega) (by omega)
    · obtain rfl : j = i := by omega
      rw [ins_eq]; exact Int.le_refl _
  · rw [ins_gt E p x hi, ins_gt E p x (by omega)]
    exact h (i - 1) (j - 1) (by omega) (by omega)

theorem has_ins (E : Nat → Int) (n p : Nat) (x q : Int) (hp : p ≤ n) : has (ins E p x) (n + 1) q = (has E n q || q == x) := by
  cases hb : has (ins E p x) (n + 1) q with
  | true =>
    obtain ⟨j, h1, h2⟩ := has_iff.1 hb
    rcases Nat.lt_trichotomy j p with hj | hj | hj
    · rw [ins_lt E p x hj] at h2; rw [has_true j (by omega) h2]; rfl
    · subst hj; rw [ins_eq] at h2; rw [show (q == x) = true from by simp [h2], Bool.or_true]
    · rw [ins_gt E p x hj] at h2; rw [has_true (j - 1) (by omega) h2]; rfl
  | false =>
    have h0 : ∀ j, j < n + 1 → ins E p x j ≠ q := fun j h1 h2 => by rw [has_true j h1 h2] at hb; cases hb
    have hx : x ≠ q := by have := h0 p (by omega); rwa [ins_eq] at this
    have h1 : ∀ j, j < n → E j ≠ q := fun j hj => by
      by_cases hjp : j < p
      · have := h0 j (by omega); rwa [ins_lt E p x hjp] at this
      · have := h0 (j + 1) (by omega); rwa [ins_gt E p x (by omega), Nat.add_sub_cancel] at this
    rw [has_false h1, show (q == x) = false from by simp; exact fun e => hx e.symm]; rfl
end Go.Proofs.Qxb6614246a
