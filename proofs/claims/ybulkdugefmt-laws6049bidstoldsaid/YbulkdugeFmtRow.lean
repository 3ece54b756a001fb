/-
  A BLOCK OF CELLS KNOWN WHOLE: what its cells hold, that they may be written, what it is behind a store. Speaks of no program.
-/
import Derived.WalkKit
import Derived.BigQuiet
namespace Go.Proofs.YbulkdugeFmt
open Go.RowKit

/-- Block 'b' is a row of the numbers 'xs', integers of kind 'k', of element type 'e', nothing of it frozen. -/
def RowN (k : IntKind) (e : TypeId) (w : World) (b : Nat) (xs : List Nat) : Prop :=
  w.heap[b]? = some (.cells (xs.map fun n : Nat => Value.int k (n : Int)).toArray e (0, 0))

section
variable {k : IntKind} {e : TypeId} {w w' : World} {b : Nat} {xs : List Nat}

theorem RowN.cell (h : RowN k e w b xs) (i : Nat) (hi : i < xs.length) : w.cell? ⟨b, i, none⟩ = some (.int k ((xs[i]?.getD 0 : Nat) : Int)) := by
  unfold RowN at h
  simp [World.cell?, h, hi]

theorem RowN.frozen (h : RowN k e w b xs) (i : Nat) : w.frozen? ⟨b, i, none⟩ = false := by
  unfold RowN at h
  simp [World.frozen?, h]

theorem RowN.lt (h : RowN k e w b xs) : b < w.heap.size := lt_of_block h

theorem RowN.of_block (h : RowN k e w b xs) (hb : w'.heap[b]? = w.heap[b]?) : RowN k e w' b xs := by
  unfold RowN at h ⊢
  rw [hb, h]

theorem RowN.drew (h : RowN k e w b xs) : RowN k e w.drew b xs := h

theorem RowN.drewN (h : RowN k e w b xs) (n : Nat) : RowN k e (w.drewN n) b xs := by
  induction n generalizing w with
  | zero => exact h
  | succ n ih => exact ih h.drew

theorem RowN.alloc (h : RowN k e w b xs) (o : Obj) : RowN k e (w.alloc o) b xs :=
  h.of_block (Below.heap_alloc w o b h.lt)

theorem RowN.other (h : RowN k e w b xs) (g i : Nat) (hg : b ≠ g) (u : Value) : RowN k e (w.setCell ⟨g, i, none⟩ u) b xs :=
  h.of_block (Below.heap_setCell w _ u b hg)

theorem RowN.grown {row : Option Nat} (h : RowN k e w b xs) (hg : w.grownBy w' row) (hne : some b ≠ row) : RowN k e w' b xs :=
  h.of_block (hg.block b h.lt hne)

theorem RowN.set (h : RowN k e w b xs) (i z : Nat) : RowN k e (w.setCell ⟨b, i, none⟩ (.int k (z : Int))) b (xs.set i z) := by
  unfold RowN at h ⊢
  rw [heap_setCell_same w b i _ e _ h]
  simp [List.map_set]

theorem RowN.of_owns {base n cap : Nat} (h : w.ownsRow base e 1 (.slice (some ⟨b, 0, none⟩) n cap) n (xs.map fun n : Nat => Value.int k (n : Int))) (hc : cap = n) : RowN k e w b xs := by
  rcases h.2 with ⟨h', _⟩ | ⟨g', cap', cur, h', _, hg, _, _, hs, htake⟩
  · simp at h'
  · simp only [Value.slice.injEq, Option.some.injEq, Addr.mk.injEq, and_true, true_and] at h'
    obtain ⟨rfl, rfl⟩ := h'
    unfold RowN
    rw [hg]
    have : cur = (xs.map fun n : Nat => Value.int k (n : Int)).toArray := by
      rw [List.take_of_length_le (by simp [hs, hc])] at htake
      rw [← htake]
    rw [this]
end

theorem grownBy_refl (w : World) (row : Option Nat) : w.grownBy w row := ⟨rfl, rfl, rfl, Nat.le_refl _, fun _ _ _ => rfl⟩
theorem grownBy_trans {a b c : World} {row : Option Nat} (h : a.grownBy b row) (k : b.grownBy c row) : a.grownBy c row :=
  ⟨k.os.trans h.os, k.tape.trans h.tape, k.output.trans h.output, Nat.le_trans h.size k.size, fun i hi hn => (k.block i (Nat.lt_of_lt_of_le hi h.size) hn).trans (h.block i hi hn)⟩
theorem grownBy_drew {a b : World} {row : Option Nat} (h : a.grownBy b row) : a.grownBy b.drew row := ⟨h.os, h.tape, h.output, h.size, h.block⟩
theorem grownBy_drewN {a b : World} {row : Option Nat} (h : a.grownBy b row) (n : Nat) : a.grownBy (b.drewN n) row := by
  induction n generalizing b with
  | zero => exact h
  | succ n ih => exact grownBy_drew (ih h)
theorem grownBy_setCell {a b : World} {g : Nat} (h : a.grownBy b (some g)) (i : Nat) (u : Value) : a.grownBy (b.setCell ⟨g, i, none⟩ u) (some g) :=
  grownBy_trans h ⟨rfl, rfl, rfl, by simp [World.setCell], fun k _ hk => Below.heap_setCell b _ u k (fun e => hk (by simp [e]))⟩

end Go.Proofs.YbulkdugeFmt
