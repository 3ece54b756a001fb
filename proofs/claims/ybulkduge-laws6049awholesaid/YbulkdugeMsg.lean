/-
  MESSAGES IN MEMORY (four cells each: seq, from, to, a nil payload); THE PLAIN MODEL OF A messageList: blocks of messages, a first place, a number, a spare block. Speaks of no program.
-/
import Derived.Test.YbulkdugeSlc
namespace Go.Proofs.Ybulkduge
open Go.RowKit
set_option linter.unusedVariables false

abbrev Msg := Int × Int × Int
def zeroM : Msg := (0, 0, 0)
def mc (m : Msg) : List Value := [.int .i64 m.1, .int .i64 m.2.1, .int .i64 m.2.2, .nilIface]
def flat (ms : List Msg) : List Value := ms.flatMap mc

theorem flat_nil : flat [] = [] := rfl
theorem flat_cons (m : Msg) (ms : List Msg) : flat (m :: ms) = .int .i64 m.1 :: .int .i64 m.2.1 :: .int .i64 m.2.2 :: .nilIface :: flat ms := by simp [flat, mc]
theorem flat_append (a b : List Msg) : flat (a ++ b) = flat a ++ flat b := by simp [flat]
theorem flat_length (ms : List Msg) : (flat ms).length = ms.length * 4 := by
  induction ms with
  | nil => rfl
  | cons m ms ih => rw [flat_cons]; simp [ih]; omega
theorem flat_one (ms : List Msg) : ∀ v ∈ flat ms, v.oneCell' = true := by
  induction ms with
  | nil => simp [flat]
  | cons m ms ih =>
    intro v hv
    rw [flat_cons] at hv
    simp only [List.mem_cons] at hv
    rcases hv with rfl | rfl | rfl | rfl | h
    · rfl
    · rfl
    · rfl
    · rfl
    · exact ih v h
theorem flat_take (ms : List Msg) (n : Nat) : (flat ms).take (n * 4) = flat (ms.take n) := by
  induction ms generalizing n with
  | nil => simp [flat]
  | cons m ms ih =>
    cases n with
    | zero => simp [flat]
    | succ n =>
      rw [flat_cons, List.take_succ_cons, flat_cons, Nat.succ_mul, ← ih n]
      simp [List.take_succ_cons]
theorem flat_drop (ms : List Msg) (n : Nat) : (flat ms).drop (n * 4) = flat (ms.drop n) := by
  induction ms generalizing n with
  | nil => simp [flat]
  | cons m ms ih =>
    cases n with
    | zero => simp
    | succ n =>
      rw [List.drop_succ_cons, flat_cons, Nat.succ_mul, ← ih n]
      simp [List.drop_succ_cons]
theorem flat_get (ms : List Msg) (i : Nat) (hi : i < ms.length) : (flat ms)[i * 4]? = some (.int .i64 (ms[i]).1) ∧ (flat ms)[i * 4 + 1]? = some (.int .i64 (ms[i]).2.1) ∧ (flat ms)[i * 4 + 2]? = some (.int .i64 (ms[i]).2.2) ∧ (flat ms)[i * 4 + 3]? = some .nilIface := by
  induction ms generalizing i with
  | nil => simp at hi
  | cons m ms ih =>
    cases i with
    | zero => simp [flat_cons]
    | succ i =>
      have := ih i (by simpa using hi)
      rw [flat_cons, Nat.succ_mul, show i * 4 + 4 + 1 = i * 4 + 1 + 4 by omega, show i * 4 + 4 + 2 = i * 4 + 2 + 4 by omega, show i * 4 + 4 + 3 = i * 4 + 3 + 4 by omega]
      simp only [List.getElem?_cons_succ, List.getElem_cons_succ]
      exact this
theorem flat_set (ms : List Msg) (i : Nat) (x y z : Int) : ((((flat ms).set (i * 4) (.int .i64 x)).set (i * 4 + 1) (.int .i64 y)).set (i * 4 + 2) (.int .i64 z)).set (i * 4 + 3) .nilIface = flat (ms.set i (x, y, z)) := by
  induction ms generalizing i with
  | nil => simp [flat]
  | cons m ms ih =>
    cases i with
    | zero => simp [flat_cons]
    | succ i =>
      rw [flat_cons, List.set_cons_succ, flat_cons, ← ih i, Nat.succ_mul]
      rfl

/-- Block g is a row of these messages. -/
def RowM (w : World) (g : Nat) (ms : List Msg) : Prop := w.heap[g]? = some (.cells (flat ms).toArray 26 (0, 0))

section
variable {w w' : World} {g : Nat} {ms : List Msg}
theorem RowM.lt (h : RowM w g ms) : g < w.heap.size := lt_of_block h
theorem RowM.of_block (h : RowM w g ms) (hb : w'.heap[g]? = w.heap[g]?) : RowM w' g ms := by
  unfold RowM at h ⊢
  rw [hb, h]
theorem RowM.outside {S : List Nat} (h : RowM w g ms) (ho : Outside S w w') (hn : g ∉ S) : RowM w' g ms := h.of_block (ho.block g h.lt hn)
theorem RowM.cells (h : RowM w g ms) (i : Nat) (hi : i < ms.length) : w.cell? ⟨g, i * 4, none⟩ = some (.int .i64 (ms[i]).1) ∧ w.cell? ⟨g, i * 4 + 1, none⟩ = some (.int .i64 (ms[i]).2.1) ∧ w.cell? ⟨g, i * 4 + 2, none⟩ = some (.int .i64 (ms[i]).2.2) ∧ w.cell? ⟨g, i * 4 + 3, none⟩ = some .nilIface := by
  unfold RowM at h
  have hc : ∀ j, w.cell? ⟨g, j, none⟩ = (flat ms)[j]? := fun j => by rw [cell_of_row w g j _ 26 (0, 0) h]; simp
  rw [hc, hc, hc, hc]
  exact flat_get ms i hi
theorem RowM.frozen (h : RowM w g ms) (j : Nat) : w.frozen? ⟨g, j, none⟩ = false := frozen_of_row w g j _ 26 h
/-- A message stored. -/
theorem RowM.set (h : RowM w g ms) (i : Nat) (x y z : Int) :
    RowM ((((w.setCell ⟨g, i * 4, none⟩ (.int .i64 x)).setCell ⟨g, i * 4 + 1, none⟩ (.int .i64 y)).setCell ⟨g, i * 4 + 2, none⟩ (.int .i64 z)).setCell ⟨g, i * 4 + 3, none⟩ .nilIface) g (ms.set i (x, y, z)) := by
  unfold RowM at h ⊢
  have h1 := heap_setCell_same w g (i * 4) _ 26 (.int .i64 x) h
  have h2 := heap_setCell_same _ g (i * 4 + 1) _ 26 (.int .i64 y) h1
  have h3 := heap_setCell_same _ g (i * 4 + 2) _ 26 (.int .i64 z) h2
  have h4 := heap_setCell_same _ g (i * 4 + 3) _ 26 .nilIface h3
  rw [h4, ← flat_set]
  simp
end

/-- One message stored at place i of block g: the world behind it. -/
def stM (w : World) (g i : Nat) (m : Msg) : World :=
  (((w.setCell ⟨g, i * 4, none⟩ (.int .i64 m.1)).setCell ⟨g, i * 4 + 1, none⟩ (.int .i64 m.2.1)).setCell ⟨g, i * 4 + 2, none⟩ (.int .i64 m.2.2)).setCell ⟨g, i * 4 + 3, none⟩ .nilIface
theorem RowM.st {w : World} {g : Nat} {ms : List Msg} (h : RowM w g ms) (i : Nat) (m : Msg) : RowM (stM w g i m) g (ms.set i m) := h.set i m.1 m.2.1 m.2.2
theorem Outside.stM {S : List Nat} {a b : World} (h : Outside S a b) (g i : Nat) (hg : g ∈ S ∨ a.heap.size ≤ g) (m : Msg) : Outside S a (stM b g i m) :=
  (((h.setCell g _ hg _).setCell g _ hg _).setCell g _ hg _).setCell g _ hg _

/-! ### THE PLAIN MODEL -/
abbrev Blk := Nat × List Msg
structure LSt where
  blks : List Blk
  first : Nat
  n : Nat
  spare : Option Blk
  ao : Option Addr
  cap : Nat

def places (bs : List Blk) : List Msg := bs.flatMap Prod.snd
theorem places_nil : places [] = [] := rfl
theorem places_cons (b : Blk) (r : List Blk) : places (b :: r) = b.2 ++ places r := by simp [places]
theorem places_append (a b : List Blk) : places (a ++ b) = places a ++ places b := by simp [places]

/-- Every block but the last holds S places, the last one at least one. -/
def Good (S : Nat) : List Blk → Prop
  | [] => True
  | [b] => 0 < b.2.length ∧ b.2.length ≤ S
  | b :: c :: r => b.2.length = S ∧ Good S (c :: r)

section
variable {S : Nat} (hS : 0 < S)

theorem pos (hS : 0 < S) (bs : List Blk) (hg : Good S bs) (j : Nat) (hj : j < (places bs).length) :
    ∃ b, bs[j / S]? = some b ∧ j % S < b.2.length ∧ (places bs)[j]? = b.2[j % S]? := by
  induction bs generalizing j with
  | nil => simp [places] at hj
  | cons b r ih =>
    cases r with
    | nil =>
      obtain ⟨h0, h1⟩ := hg
      rw [places_cons, places_nil, List.append_nil] at hj ⊢
      have e1 : j / S = 0 := Nat.div_eq_of_lt (by omega)
      have e2 : j % S = j := Nat.mod_eq_of_lt (by omega)
      exact ⟨b, by rw [e1]; rfl, by omega, by rw [e2]⟩
    | cons c r =>
      obtain ⟨h0, h1⟩ := hg
      rw [places_cons, List.length_append] at hj
      by_cases h : j < S
      · have e1 : j / S = 0 := Nat.div_eq_of_lt h
        have e2 : j % S = j := Nat.mod_eq_of_lt h
        refine ⟨b, by rw [e1]; rfl, by omega, ?_⟩
        rw [places_cons, List.getElem?_append_left (by omega), e2]
      · obtain ⟨d, d1, d2, d3⟩ := ih h1 (j - S) (by omega)
        have e1 : j / S = (j - S) / S + 1 := Nat.div_eq_sub_div hS (by omega)
        have e2 : j % S = (j - S) % S := Nat.mod_eq_sub_mod (by omega)
        refine ⟨d, by rw [e1, List.getElem?_cons_succ]; exact d1, by rw [e2]; exact d2, ?_⟩
        rw [places_cons, List.getElem?_append_right (by omega), h0, e2]
        exact d3

theorem pos_set (hS : 0 < S) (bs : List Blk) (hg : Good S bs) (j : Nat) (b : Blk) (hb : bs[j / S]? = some b) (hj : j % S < b.2.length) (m : Msg) :
    places (bs.set (j / S) (b.1, b.2.set (j % S) m)) = (places bs).set j m := by
  induction bs generalizing j with
  | nil => simp at hb
  | cons a r ih =>
    cases r with
    | nil =>
      obtain ⟨h0, h1⟩ := hg
      have e1 : j / S = 0 := by
        rcases Nat.eq_zero_or_pos (j / S) with h | h
        · exact h
        · rw [List.getElem?_eq_none (by simp; omega)] at hb; cases hb
      have hjS : j < S := by
        rcases Nat.lt_or_ge j S with h | h
        · exact h
        · have h2 := Nat.div_pos h hS; rw [e1] at h2; exact absurd h2 (Nat.lt_irrefl 0)
      rw [e1] at hb ⊢
      simp at hb
      subst hb
      rw [Nat.mod_eq_of_lt hjS]
      simp [places]
    | cons c r =>
      obtain ⟨h0, h1⟩ := hg
      by_cases h : j < S
      · have e1 : j / S = 0 := Nat.div_eq_of_lt h
        rw [e1] at hb ⊢
        simp at hb
        subst hb
        rw [Nat.mod_eq_of_lt h, List.set_cons_zero, places_cons, places_cons a, List.set_append_left _ _ (by omega)]
      · have e1 : j / S = (j - S) / S + 1 := Nat.div_eq_sub_div hS (by omega)
        have e2 : j % S = (j - S) % S := Nat.mod_eq_sub_mod (by omega)
        rw [e1] at hb ⊢
        rw [e2] at hj ⊢
        rw [List.set_cons_succ, places_cons, places_cons a, List.set_append_right _ _ (by omega), h0]
        rw [List.getElem?_cons_succ] at hb
        rw [ih h1 (j - S) hb hj]

theorem good_set (bs : List Blk) (hg : Good S bs) (k : Nat) (b b' : Blk) (hb : bs[k]? = some b) (hl : b'.2.length = b.2.length) : Good S (bs.set k b') := by
  induction bs generalizing k with
  | nil => simp at hb
  | cons a r ih =>
    cases r with
    | nil =>
      cases k with
      | zero => simp at hb; subst hb; obtain ⟨h0, h1⟩ := hg; exact ⟨by omega, by omega⟩
      | succ k => simp at hb
    | cons c r =>
      obtain ⟨h0, h1⟩ := hg
      cases k with
      | zero => simp at hb; subst hb; exact ⟨by omega, h1⟩
      | succ k =>
        have := ih h1 k (by simpa using hb)
        cases k with
        | zero => exact ⟨h0, this⟩
        | succ k => exact ⟨h0, this⟩

/-- All places are in use: the next one lies behind the last block. -/
theorem pos_end (hS : 0 < S) (bs : List Blk) (hg : Good S bs) (j : Nat) (hj : j = (places bs).length) :
    (bs.length ≤ j / S ∧ ∀ b, bs.getLast? = some b → b.2.length = S) ∨ ∃ b, bs.getLast? = some b ∧ bs[j / S]? = some b ∧ j / S + 1 = bs.length ∧ b.2.length = j % S ∧ b.2.length < S := by
  induction bs generalizing j with
  | nil => exact .inl ⟨by simp, by simp⟩
  | cons b r ih =>
    cases r with
    | nil =>
      obtain ⟨h0, h1⟩ := hg
      rw [places_cons, places_nil, List.append_nil] at hj
      by_cases h : b.2.length = S
      · exact .inl ⟨by rw [hj, h, Nat.div_self hS]; exact Nat.le_refl _, fun x hx => by simp at hx; subst hx; exact h⟩
      · have e1 : j / S = 0 := Nat.div_eq_of_lt (by omega)
        exact .inr ⟨b, rfl, by rw [e1]; rfl, by rw [e1]; rfl, by rw [Nat.mod_eq_of_lt (by omega)]; exact hj.symm, by omega⟩
    | cons c r =>
      obtain ⟨h0, h1⟩ := hg
      rw [places_cons, List.length_append] at hj
      have e1 : j / S = (j - S) / S + 1 := Nat.div_eq_sub_div hS (by omega)
      have e2 : j % S = (j - S) % S := Nat.mod_eq_sub_mod (by omega)
      rcases ih h1 (j - S) (by omega) with ⟨h, h'⟩ | ⟨d, d0, d1, d2, d3, d4⟩
      · exact .inl ⟨by simp at h ⊢; omega, fun x hx => h' x (by simpa using hx)⟩
      · exact .inr ⟨d, by simpa using d0, by rw [e1, List.getElem?_cons_succ]; exact d1, by simp at d2 ⊢; omega, by omega, d4⟩

theorem good_pos (bs : List Blk) (hg : Good S bs) : ∀ b ∈ bs, 0 < b.2.length ∧ b.2.length ≤ S := by
  induction bs with
  | nil => simp
  | cons b r ih =>
    cases r with
    | nil => intro x hx; simp at hx; subst hx; exact hg
    | cons c r =>
      obtain ⟨h0, h1⟩ := hg
      intro x hx
      have hc := ih h1 c (by simp)
      rcases List.mem_cons.1 hx with rfl | h
      · omega
      · exact ih h1 x h

/-- A block more, where the last one is full (or there is none). -/
theorem good_snoc (bs : List Blk) (hg : Good S bs) (hf : ∀ b, bs.getLast? = some b → b.2.length = S) (c : Blk) (hc : 0 < c.2.length ∧ c.2.length ≤ S) : Good S (bs ++ [c]) := by
  induction bs with
  | nil => exact hc
  | cons b r ih =>
    cases r with
    | nil => exact ⟨hf b rfl, hc⟩
    | cons d r =>
      obtain ⟨h0, h1⟩ := hg
      exact ⟨h0, ih h1 (fun x hx => hf x (by simpa using hx))⟩

/-- The last block replaced. -/
theorem good_last (bs : List Blk) (b c : Blk) (hg : Good S (bs ++ [b])) (hc : 0 < c.2.length ∧ c.2.length ≤ S) : Good S (bs ++ [c]) := by
  induction bs with
  | nil => exact hc
  | cons a r ih =>
    cases r with
    | nil => exact ⟨hg.1, hc⟩
    | cons d r =>
      obtain ⟨h0, h1⟩ := hg
      exact ⟨h0, ih h1⟩

theorem good_tail (b : Blk) (r : List Blk) (hg : Good S (b :: r)) : Good S r := by
  cases r with
  | nil => trivial
  | cons c r => exact hg.2
end

def items (st : LSt) : List Msg := ((places st.blks).drop st.first).take st.n

end Go.Proofs.Ybulkduge
