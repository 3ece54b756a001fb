/-
  THE GRAPH AS IT IS MADE (law B).
-/
import Derived.Test.YbulkdukmBRound
import Derived.Carry
namespace Go.Proofs.Ybulkdukm
open Go.RowKit
set_option linter.unusedVariables false

/-- Behind j rounds of the law's first loop. -/
def nd1 (B nk j : Nat) : List Value := (List.range nk).map fun y => if y < j then pv (B + 2 + 2 * y) else .pointer none
structure L1 (w wr : World) (nk j : Nat) : Prop where
  size : wr.heap.size = w.heap.size + 1 + 2 * j
  nb : ∀ y, y < j → wr.heap[w.heap.size + 2 + 2 * y]? = some (.cells (ncells (w.heap.size + 1 + 2 * y)) 64 (0, 0))
  qb : ∀ y, y < j → wr.heap[w.heap.size + 1 + 2 * y]? = some (.cells (qcells none 0 0 0) 60 (0, 0))
  nd : wr.heap[w.heap.size]? = some (.cells (nd1 w.heap.size nk j).toArray 44 (0, 0))
  out : Outside [] w wr
theorem L1.made (w : World) (nk : Nat) : L1 w (w.alloc (.cells (nilp nk) 44)) nk 0 := by
  refine ⟨by simp, fun y hy => by omega, fun y hy => by omega, ?_, (Outside.refl [] w).alloc _⟩
  rw [heap_alloc_new]
  have : nilp nk = (nd1 w.heap.size nk 0).toArray := by
    unfold nilp nd1
    congr 1
    apply List.ext_getElem?
    intro c
    by_cases h : c < nk
    · simp [h]
    · simp [h]
  rw [this]
theorem L1.cell {w wr : World} {nk j : Nat} (h : L1 w wr nk j) (hj : j < nk) : wr.cell? ⟨w.heap.size, j, none⟩ = some (.pointer none) ∧ wr.frozen? ⟨w.heap.size, j, none⟩ = false := by
  refine ⟨?_, frozen_of_row _ _ _ _ 44 h.nd⟩
  rw [cell_of_row wr _ _ _ 44 (0, 0) h.nd]
  simp [nd1, hj]
theorem L1.next {w wr : World} {nk j : Nat} (h : L1 w wr nk j) (hj : j < nk) : L1 w (((wr.alloc (.cells (qcells none 0 0 0) 60)).alloc (.cells (ncells wr.heap.size) 64)).setCell ⟨w.heap.size, j, none⟩ (pv (wr.heap.size + 1))) nk (j + 1) := by
  have hz := h.size
  have o1 : Outside [] wr ((wr.alloc (.cells (qcells none 0 0 0) 60)).alloc (.cells (ncells wr.heap.size) 64)) := ((Outside.refl [] wr).alloc _).alloc _
  have hQ : ((wr.alloc (.cells (qcells none 0 0 0) 60)).alloc (.cells (ncells wr.heap.size) 64)).heap[wr.heap.size]? = some (.cells (qcells none 0 0 0) 60 (0, 0)) := ((Outside.refl [] _).alloc _).obj (heap_alloc_new wr _) (by simp)
  have hN : ((wr.alloc (.cells (qcells none 0 0 0) 60)).alloc (.cells (ncells wr.heap.size) 64)).heap[wr.heap.size + 1]? = some (.cells (ncells wr.heap.size) 64 (0, 0)) := by
    have e := heap_alloc_new (wr.alloc (.cells (qcells none 0 0 0) 60)) (.cells (ncells wr.heap.size) 64)
    rw [World.size_alloc] at e
    exact e
  have hD := o1.obj h.nd (by simp)
  have o2 : Outside [w.heap.size] ((wr.alloc (.cells (qcells none 0 0 0) 60)).alloc (.cells (ncells wr.heap.size) 64)) (((wr.alloc (.cells (qcells none 0 0 0) 60)).alloc (.cells (ncells wr.heap.size) 64)).setCell ⟨w.heap.size, j, none⟩ (pv (wr.heap.size + 1))) := (Outside.refl _ _).setCell _ _ (.inl (by simp)) _
  refine ⟨?_, fun y hy => ?_, fun y hy => ?_, ?_, ?_⟩
  · simp
    omega
  · by_cases e : y = j
    · subst e
      rw [show w.heap.size + 2 + 2 * y = wr.heap.size + 1 by omega, show w.heap.size + 1 + 2 * y = wr.heap.size by omega]
      exact o2.obj hN (by simp; omega)
    · exact o2.obj (o1.obj (h.nb y (by omega)) (by simp)) (by simp; omega)
  · by_cases e : y = j
    · subst e
      rw [show w.heap.size + 1 + 2 * y = wr.heap.size by omega]
      exact o2.obj hQ (by simp; omega)
    · exact o2.obj (o1.obj (h.qb y (by omega)) (by simp)) (by simp; omega)
  · rw [heap_setCell_same _ w.heap.size j _ 44 _ hD]
    have e : (nd1 w.heap.size nk j).set j (pv (wr.heap.size + 1)) = nd1 w.heap.size nk (j + 1) := by
      unfold nd1
      refine row_set hj ?_ (fun x hx => ?_)
      · rw [if_pos (by omega), show w.heap.size + 2 + 2 * j = wr.heap.size + 1 by omega]
      · by_cases h1 : x < j
        · rw [if_pos (by omega), if_pos h1]
        · rw [if_neg (by omega), if_neg h1]
    rw [← e]
    simp
  · exact (h.out.trans o1).then o2 (fun x hx => .inr (by simp at hx; omega))

theorem L1.next' {w wr : World} {nk j : Nat} (h : L1 w wr nk j) (hj : j < nk) : L1 w (((wr.setCell ⟨w.heap.size, j, none⟩ (pv (wr.heap.size + 1))).alloc (.cells (qcells none 0 0 0) 60)).alloc (.cells (ncells wr.heap.size) 64)) nk (j + 1) := by
  have k := h.next hj
  have hz := h.size
  rw [World.setCell_alloc_past _ _ _ _ (by simp; omega), World.setCell_alloc_past _ _ _ _ (by omega)] at k
  exact k

def zeros (n : Nat) : Array Value := (List.replicate n (Value.int .i64 0)).toArray
theorem Yba.info3 : (Yba.prog.info? 3).map (fun i => (i.zero, i.size, i.bytes)) = some (some (.int .i64 0), 1, 8) := by kernel_rfl
theorem made_zeros (n : Nat) : madeCells (Value.int .i64 0).cells (n * 1) = zeros n := by
  unfold madeCells zeros
  apply Array.ext_getElem?
  intro i
  by_cases h : i < n
  · simp [h, Value.cells, Nat.mod_one]
  · simp [h]
theorem mk_full79 (n : Nat) (hn : n ≤ 200000) (W : World) : (Instr.makeSlice 79 (.int .i64 (n : Int)) (.int .i64 (n : Int))).run Yba.prog W = .ok (.slice (some ⟨W.heap.size, 0, none⟩) n n) (W.alloc (.cells (zeros n) 3)) := by
  obtain ⟨i, hi, hz0, hz1, hz2⟩ := info_parts Yba.info3
  have := run_make (P := Yba.prog) W 79 3 i (.int .i64 0) Yba.underlying79 hi hz0 .i64 .i64 (n : Int) (n : Int) (by omega) (by omega) (by rw [hz2]; omega) (by omega)
  rw [this, hz1, Int.toNat_natCast, made_zeros]

/-- The layout; the state at the start. -/
def lay0 (B nk : Nat) (nd id : Nat → Nat) : Lay := { nk := nk, n := 0, GB := B + 2 + 2 * nk, MB := B + 1 + 2 * nk, Nb := fun j => B + 2 + 2 * j, Qb := fun j => B + 1 + 2 * j, K := fun _ => 0, T := fun _ => 0, nd := nd, id := id }
def sta0 (q : Int) : Sta := { wl := fun _ => [], ao := fun _ => none, cp := fun _ => 0, qa := fun _ => 0, mu := 0, nl := [], aoN := none, cpN := 0, que := q, pos := fun _ => 0, wt := fun _ => false, m := fun _ => none, sz := 0 }
/-- All that the law makes ahead of its second loop. -/
def initW (wr : World) (q : Int) (n : Nat) : World := (((wr.alloc (.map #[] 0)).alloc (.cells (gcells 0 none 0 0 q wr.heap.size) 77)).alloc (.cells (nilp n) 46)).alloc (.cells (zeros n) 3)
theorem L1.init {w wr : World} {nk : Nat} (h : L1 w wr nk nk) (q : Int) (n : Nat) (nd id : Nat → Nat) : L2 w (initW wr q n) (lay0 w.heap.size nk nd id) q n 0 w.heap.size (wr.heap.size + 2) (wr.heap.size + 3) (fun _ => 0) (fun _ => 0) (sta0 q) := by
  have hz := h.size
  have o1 : Outside [] wr (wr.alloc (.map #[] 0)) := (Outside.refl [] wr).alloc _
  have o2 : Outside [] (wr.alloc (.map #[] 0)) (initW wr q n) := (((Outside.refl [] _).alloc _).alloc _).alloc _
  have o3 : Outside [] ((wr.alloc (.map #[] 0)).alloc (.cells (gcells 0 none 0 0 q wr.heap.size) 77)) (initW wr q n) := ((Outside.refl [] _).alloc _).alloc _
  have o4 : Outside [] (((wr.alloc (.map #[] 0)).alloc (.cells (gcells 0 none 0 0 q wr.heap.size) 77)).alloc (.cells (nilp n) 46)) (initW wr q n) := (Outside.refl [] _).alloc _
  have oo := o1.trans o2
  have hM : MapP (initW wr q n) wr.heap.size (fun _ => none) 0 := (MapP.made wr).outside o2 (by simp)
  have hG : (initW wr q n).heap[wr.heap.size + 1]? = some (.cells (gcells 0 none 0 0 q wr.heap.size) 77 (0, 0)) := by
    have e := heap_alloc_new (wr.alloc (.map #[] 0)) (.cells (gcells 0 none 0 0 q wr.heap.size) 77)
    rw [World.size_alloc] at e
    exact o3.obj e (by simp)
  have hW : (initW wr q n).heap[wr.heap.size + 2]? = some (.cells (nilp n) 46 (0, 0)) := by
    have e := heap_alloc_new ((wr.alloc (.map #[] 0)).alloc (.cells (gcells 0 none 0 0 q wr.heap.size) 77)) (.cells (nilp n) 46)
    rw [World.size_alloc, World.size_alloc] at e
    exact o4.obj e (by simp)
  have hO : (initW wr q n).heap[wr.heap.size + 3]? = some (.cells (zeros n) 3 (0, 0)) := by
    have e := heap_alloc_new (((wr.alloc (.map #[] 0)).alloc (.cells (gcells 0 none 0 0 q wr.heap.size) 77)).alloc (.cells (nilp n) 46)) (.cells (zeros n) 3)
    rw [World.size_alloc, World.size_alloc, World.size_alloc] at e
    exact e
  have eM : (lay0 w.heap.size nk nd id).MB = wr.heap.size := by show w.heap.size + 1 + 2 * nk = _; omega
  have eG : (lay0 w.heap.size nk nd id).GB = wr.heap.size + 1 := by show w.heap.size + 2 + 2 * nk = _; omega
  refine ⟨⟨fun j hj => oo.obj (h.nb j hj) (by simp), ⟨fun j hj => oo.obj (h.qb j hj) (by simp), fun j hj => Slc.nil _ _ _ _, fun j j' _ _ _ b hb => by simp [sta0, ownB] at hb, fun j j' _ _ e => ?_⟩, ⟨?_, Slc.nil _ _ _ _⟩, ?_, ⟨fun i hi => absurd hi (Nat.not_lt_zero i), fun i i' hi => absurd hi (Nat.not_lt_zero i)⟩, ⟨fun i hi => absurd hi (Nat.not_lt_zero i), fun i i' hi => absurd hi (Nat.not_lt_zero i)⟩⟩, ?_, ?_, ?_, ?_, ?_, ?_⟩
  · have e' : w.heap.size + 1 + 2 * j = w.heap.size + 1 + 2 * j' := e
    omega
  · show (initW wr q n).heap[(lay0 w.heap.size nk nd id).GB]? = some (.cells (gcells 0 none 0 0 q (lay0 w.heap.size nk nd id).MB) 77 (0, 0))
    rw [eM, eG]
    exact hG
  · show MapP (initW wr q n) (lay0 w.heap.size nk nd id).MB (fun _ => none) 0
    rw [eM]
    exact hM
  · refine ⟨fun j hj => rfl, fun x hx => absurd hx (Nat.not_lt_zero x), rfl, fun j hj hne => absurd rfl hne, rfl, rfl, fun x hx => absurd hx (Nat.not_lt_zero x), fun k => rfl, rfl⟩
  · have e := oo.obj h.nd (by simp)
    have e2 : nd1 w.heap.size nk nk = ndr (lay0 w.heap.size nk nd id) := by
      unfold nd1 ndr
      apply List.map_congr_left
      intro y hy
      have hy' : y < nk := by simpa using hy
      rw [if_pos hy']
      rfl
    rw [← e2]
    exact e
  · have e2 : nilp n = (wsr (fun _ => 0) n 0).toArray := by
      unfold nilp wsr
      congr 1
      apply List.ext_getElem?
      intro c
      by_cases h : c < n
      · simp [h]
      · simp [h]
    rw [← e2]
    exact hW
  · have e2 : zeros n = (nor nd n 0).toArray := by
      unfold zeros nor
      congr 1
      apply List.ext_getElem?
      intro c
      by_cases h : c < n
      · simp [h]
      · simp [h]
    show _ = some (Obj.cells (nor nd n 0).toArray 3 (0, 0))
    rw [← e2]
    exact hO
  · intro x hx
    rcases hx with e | e | ⟨j, hj, e⟩ | ⟨j, hj, e⟩ | e | ⟨i, hi, _⟩
    · have e' : x = w.heap.size + 2 + 2 * nk := e
      omega
    · have e' : x = w.heap.size + 1 + 2 * nk := e
      omega
    · have e' : x = w.heap.size + 1 + 2 * j := e
      omega
    · simp [sta0, ownB] at e
    · simp [sta0, ownB] at e
    · exact absurd hi (Nat.not_lt_zero i)
  · exact h.out.trans oo

end Go.Proofs.Ybulkdukm
