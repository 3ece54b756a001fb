/-
  THE PLAIN MODEL OF LAW C: queued requests in chains; the least and the greatest place with a property. Speaks of no program.
-/
import Derived.Test.YbulkdukmSlc
namespace Go.Proofs.Ybulkdukm
set_option linter.unusedVariables false

/-- The least j with lo ≤ j < hi and p j. -/
def nx (p : Nat → Bool) (lo : Nat) : Nat → Option Nat
  | 0 => none
  | hi + 1 => match nx p lo hi with
    | some j => some j
    | none => if lo ≤ hi ∧ p hi = true then some hi else none
/-- The greatest j < hi with p j. -/
def la (p : Nat → Bool) : Nat → Option Nat
  | 0 => none
  | hi + 1 => if p hi = true then some hi else la p hi

section
variable {p : Nat → Bool} {lo hi : Nat}
theorem nx_spec (p : Nat → Bool) (lo hi : Nat) : (nx p lo hi = none ∧ ∀ j, lo ≤ j → j < hi → p j = false) ∨ ∃ j, nx p lo hi = some j ∧ lo ≤ j ∧ j < hi ∧ p j = true ∧ ∀ i, lo ≤ i → i < j → p i = false := by
  induction hi with
  | zero => exact .inl ⟨rfl, fun j _ h => absurd h (Nat.not_lt_zero _)⟩
  | succ hi ih =>
    rcases ih with ⟨h1, h2⟩ | ⟨j, h1, h2, h3, h4, h5⟩
    · simp only [nx, h1]
      split
      · rename_i h
        exact .inr ⟨hi, rfl, h.1, by omega, h.2, fun i hi1 hi2 => h2 i hi1 hi2⟩
      · rename_i h
        refine .inl ⟨rfl, fun j hj1 hj2 => ?_⟩
        by_cases e : j = hi
        · subst e
          cases hp : p j with
          | false => rfl
          | true => exact absurd ⟨hj1, hp⟩ h
        · exact h2 j hj1 (by omega)
    · simp only [nx, h1]
      exact .inr ⟨j, rfl, h2, by omega, h4, h5⟩
theorem nx_some {j : Nat} (h : nx p lo hi = some j) : lo ≤ j ∧ j < hi ∧ p j = true ∧ ∀ i, lo ≤ i → i < j → p i = false := by
  rcases nx_spec p lo hi with ⟨h1, _⟩ | ⟨j', h1, h2⟩
  · rw [h1] at h; cases h
  · rw [h1] at h; cases h; exact h2
theorem nx_none (h : nx p lo hi = none) : ∀ j, lo ≤ j → j < hi → p j = false := by
  rcases nx_spec p lo hi with ⟨_, h2⟩ | ⟨j', h1, _⟩
  · exact h2
  · rw [h1] at h; cases h
theorem nx_is {j : Nat} (h1 : lo ≤ j) (h2 : j < hi) (h3 : p j = true) (h4 : ∀ i, lo ≤ i → i < j → p i = false) : nx p lo hi = some j := by
  rcases nx_spec p lo hi with ⟨_, h⟩ | ⟨j', e, k1, k2, k3, k4⟩
  · rw [h j h1 h2] at h3; cases h3
  · rcases Nat.lt_trichotomy j j' with hl | rfl | hl
    · rw [k4 j h1 hl] at h3; cases h3
    · exact e
    · rw [h4 j' k1 hl] at k3; cases k3
theorem nx_isNone (h : ∀ j, lo ≤ j → j < hi → p j = false) : nx p lo hi = none := by
  rcases nx_spec p lo hi with ⟨e, _⟩ | ⟨j, _, k1, k2, k3, _⟩
  · exact e
  · rw [h j k1 k2] at k3; cases k3
/-- Places that have not the property may be passed over. -/
theorem nx_skip {lo' : Nat} (h : lo ≤ lo') (hp : ∀ i, lo ≤ i → i < lo' → p i = false) : nx p lo hi = nx p lo' hi := by
  rcases nx_spec p lo' hi with ⟨e, k⟩ | ⟨j, e, k1, k2, k3, k4⟩
  · rw [e]
    refine nx_isNone fun j h1 h2 => ?_
    by_cases hj : j < lo'
    · exact hp j h1 hj
    · exact k j (by omega) h2
  · rw [e]
    refine nx_is (by omega) k2 k3 fun i h1 h2 => ?_
    by_cases hi' : i < lo'
    · exact hp i h1 hi'
    · exact k4 i (by omega) h2
theorem la_spec (p : Nat → Bool) (hi : Nat) : (la p hi = none ∧ ∀ j, j < hi → p j = false) ∨ ∃ j, la p hi = some j ∧ j < hi ∧ p j = true ∧ ∀ i, j < i → i < hi → p i = false := by
  induction hi with
  | zero => exact .inl ⟨rfl, fun j h => absurd h (Nat.not_lt_zero _)⟩
  | succ hi ih =>
    simp only [la]
    split
    · rename_i h
      exact .inr ⟨hi, rfl, by omega, h, fun i h1 h2 => by omega⟩
    · rename_i h
      have hf : p hi = false := by cases hp : p hi with | false => rfl | true => exact absurd hp h
      rcases ih with ⟨e, k⟩ | ⟨j, e, k1, k2, k3⟩
      · refine .inl ⟨e, fun j hj => ?_⟩
        by_cases hj' : j = hi
        · subst hj'; exact hf
        · exact k j (by omega)
      · refine .inr ⟨j, e, by omega, k2, fun i h1 h2 => ?_⟩
        by_cases hi' : i = hi
        · subst hi'; exact hf
        · exact k3 i h1 (by omega)
theorem la_some {j : Nat} (h : la p hi = some j) : j < hi ∧ p j = true ∧ ∀ i, j < i → i < hi → p i = false := by
  rcases la_spec p hi with ⟨e, _⟩ | ⟨j', e, k⟩
  · rw [e] at h; cases h
  · rw [e] at h; cases h; exact k
theorem la_none (h : la p hi = none) : ∀ j, j < hi → p j = false := by
  rcases la_spec p hi with ⟨_, k⟩ | ⟨j', e, _⟩
  · exact k
  · rw [e] at h; cases h
/-- A place more that has not the property. -/
theorem nx_grow_no (h : p hi = false) : nx p lo (hi + 1) = nx p lo hi := by
  simp only [nx]
  cases e : nx p lo hi with
  | some j => rfl
  | none => simp [h]
theorem la_grow_no (h : p hi = false) : la p (hi + 1) = la p hi := by simp [la, h]
theorem la_grow (h : p hi = true) : la p (hi + 1) = some hi := by simp [la, h]
/-- A place more that has it: it is the next of the last one, and of no other. -/
theorem nx_grow_none (h : p hi = true) (hlo : lo ≤ hi) (hn : nx p lo hi = none) : nx p lo (hi + 1) = some hi := by simp [nx, hn, h, hlo]
theorem nx_grow_some {j : Nat} (hn : nx p lo hi = some j) : nx p lo (hi + 1) = some j := by simp [nx, hn]
theorem la_nx {i : Nat} (hp : p i = true) (hi' : i < hi) : nx p (i + 1) hi = none ↔ la p hi = some i := by
  constructor
  · intro h
    rcases la_spec p hi with ⟨_, k⟩ | ⟨j, e, k1, k2, k3⟩
    · rw [k i hi'] at hp; cases hp
    · rcases Nat.lt_trichotomy i j with hl | rfl | hl
      · rw [nx_none h j (by omega) k1] at k2; cases k2
      · exact e
      · rw [k3 i hl hi'] at hp; cases hp
  · intro h
    obtain ⟨k1, k2, k3⟩ := la_some h
    exact nx_isNone fun j h1 h2 => k3 j (by omega) h2
theorem first_none : nx p 0 hi = none ↔ la p hi = none := by
  constructor
  · intro h
    rcases la_spec p hi with ⟨e, _⟩ | ⟨j, e, k1, k2, _⟩
    · exact e
    · rw [nx_none h j (Nat.zero_le _) k1] at k2; cases k2
  · intro h
    exact nx_isNone fun j _ h2 => la_none h j h2
end

/-- The places below n with the property, in order. -/
def idx (p : Nat → Bool) (lo hi : Nat) : List Nat := (List.range' lo (hi - lo)).filter p
theorem idx_next {p : Nat → Bool} {lo hi j : Nat} (h : nx p lo hi = some j) : idx p lo hi = j :: idx p (j + 1) hi := by
  obtain ⟨h1, h2, h3, h4⟩ := nx_some h
  unfold idx
  have e1 : List.range' lo (hi - lo) = List.range' lo (j - lo) ++ (j :: List.range' (j + 1) (hi - (j + 1))) := by
    have a := @List.range'_append_1 lo (j - lo) (hi - j)
    rw [show lo + (j - lo) = j by omega, show j - lo + (hi - j) = hi - lo by omega] at a
    rw [← a]
    congr 1
    rw [show hi - j = (hi - (j + 1)) + 1 by omega, List.range'_succ]
  rw [e1, List.filter_append, List.filter_cons_of_pos h3]
  have e2 : (List.range' lo (j - lo)).filter p = [] := by
    rw [List.filter_eq_nil_iff]
    intro x hx
    rw [List.mem_range'_1] at hx
    rw [h4 x hx.1 (by omega)]
    simp
  rw [e2]
  rfl
theorem idx_end {p : Nat → Bool} {lo hi : Nat} (h : nx p lo hi = none) : idx p lo hi = [] := by
  unfold idx
  rw [List.filter_eq_nil_iff]
  intro x hx
  rw [List.mem_range'_1] at hx
  rw [nx_none h x hx.1 (by omega)]
  simp
theorem idx_snoc {p : Nat → Bool} {hi : Nat} : idx p 0 (hi + 1) = idx p 0 hi ++ (if p hi = true then [hi] else []) := by
  unfold idx
  rw [Nat.sub_zero, Nat.sub_zero, List.range'_concat, List.filter_append]
  simp [List.filter_cons]
theorem idx_lt {p : Nat → Bool} {lo hi j : Nat} (h : j ∈ idx p lo hi) : lo ≤ j ∧ j < hi ∧ p j = true := by
  unfold idx at h
  rw [List.mem_filter, List.mem_range'_1] at h
  exact ⟨h.1.1, by omega, h.2⟩

end Go.Proofs.Ybulkdukm
