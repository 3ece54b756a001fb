/-
  WHAT STANDS THROUGHOUT THE LAW's SECOND HALF (law C): the filled queue, the waiters' slice, the two copies.
-/
import Derived.Test.YbulkdukmFill
import Derived.Deep.MidRow
import Derived.Deep.WholeRow
namespace Go.Proofs.Ybulkdukm
open Go.RowKit
set_option linter.unusedVariables false

structure Kept (w0 w : World) (S n C : Nat) (key : Nat → Nat) (o : Nat → Option Addr) : Prop where
  nb : w.heap[S - 3]? = some (.cells #[.int .i64 (n : Int)] 3 (0, 0))
  q : ∀ x, x < 30 → w.cell? ⟨S - 2, x, none⟩ = some (.pointer (o x))
  g1 : Grp w (S - 2) 0 9 n (bk S) (fun c j => key j == c)
  g2 : Grp w (S - 2) 18 6 n (bk S) (fun c j => key j == 9 + c)
  ws : ∀ i, i < n → w.cell? ⟨S - 1, i, none⟩ = some (pv (bk S i))
  sq : ∀ i, i < n → w.cell? ⟨bk S i, 5, none⟩ = some (.int .u64 ((i : Int) + 1))
  c1 : ∀ x, x < 18 → w.cell? ⟨C, x, none⟩ = some (.pointer (o x))
  c2 : ∀ x, x < 12 → w.cell? ⟨C + 1, x, none⟩ = some (.pointer (o (18 + x)))
  sz : C + 2 ≤ w.heap.size
  out : Outside [] w0 w

theorem Kept.outside {w0 w w' : World} {S n C : Nat} {key : Nat → Nat} {o : Nat → Option Addr} {T : List Nat} (h : Kept w0 w S n C key o) (hS : 3 ≤ S) (hS0 : w0.heap.size + 3 = S) (hC : C = S + 2 * n) (ho : Outside T w w') (hT : ∀ x ∈ T, C + 2 ≤ x) : Kept w0 w' S n C key o := by
  have hz := h.sz
  have ne : ∀ b, b < C + 2 → b ∉ T := fun b hb hm => by have := hT b hm; omega
  have hbel : Below (C + 2) w w' := ho.below (Below.refl _ w) hz hT
  have hbk : ∀ j, j < n → bk S j < C + 2 := fun j hj => by unfold bk; omega
  exact ⟨ho.obj h.nb (ne _ (by omega)), fun x hx => ho.cell (h.q x hx) (ne _ (by show S - 2 < _; omega)), h.g1.below hbel (by omega) hbk, h.g2.below hbel (by omega) hbk,
    fun i hi => ho.cell (h.ws i hi) (ne _ (by show S - 1 < _; omega)), fun i hi => ho.cell (h.sq i hi) (ne _ (hbk i hi)), fun x hx => ho.cell (h.c1 x hx) (ne _ (by show C < _; omega)), fun x hx => ho.cell (h.c2 x hx) (ne _ (by show C + 1 < _; omega)),
    Nat.le_trans hz ho.size, h.out.then ho (fun x hx => .inr (by have := hT x hx; omega))⟩

/-- The queue's cells, as pointers. -/
def qo (S : Nat) (key : Nat → Nat) (n x : Nat) : Option Addr := (if x % 2 = 0 then nx (kp key (x / 2)) 0 n else la (kp key (x / 2)) n).map fun j => ⟨bk S j, 0, none⟩
theorem qx_qo (S : Nat) (key : Nat → Nat) (n x : Nat) : qx S key n x = .pointer (qo S key n x) := by
  unfold qx qo pt
  split <;> rfl
/-- n pointers out of o, from lo on. -/
def oc (o : Nat → Option Addr) (lo n : Nat) : Array Value := ((List.range n).map fun i => Value.pointer (o (lo + i))).toArray
theorem oc_get {o : Nat → Option Addr} {lo n x : Nat} (h : x < n) : (oc o lo n)[x]? = some (.pointer (o (lo + x))) := by
  unfold oc
  simp [h]

theorem Fill.q_cell {w0 w : World} {S n : Nat} {key : Nat → Nat} (h : Fill w0 w S n n key) : ∀ x, x < 30 → w.cell? ⟨S - 2, x, none⟩ = some (.pointer (qo S key n x)) := fun x hx => by
  rw [cell_of_row w _ _ _ 60 (0, 0) h.q, List.getElem?_toArray, qc_get hx, qx_qo]

theorem wpList_store_new {P : Program} {ops : Array Oper} {rest : List Oper} {op : Oper} {a : Act} {w : World} {Q : Exit → Act → World → Prop} (hgd : op.guard = none) (ty : TypeId) (x y : Operand) (ho : op.op = .store ty x y)
    (c c' : Array Value) (b : Nat) (hb : b = w.heap.size) (hx : a.eval x = .pointer (some ⟨b, 0, none⟩)) (hy : a.eval y = .agg c') (hi : (P.info? ty).map (·.size) = some c'.size) (hs : c.size = c'.size) (h1 : c'.all (·.oneCell') = true)
    (h : wpList P ops Q rest (a.put op.dst undef) (w.alloc (.cells c' ty))) : wpList P ops Q (op :: rest) a (w.alloc (.cells c ty)) := by
  subst hb
  refine wpList_plain hgd fun _ hK => ?_
  unfold Oper.wp execOp
  simp only [ho, hx, hy, Sem.run_bind, run_storeAt_new w ty c c' hi hs h1, Result.andThen_ok]
  exact hK _ _ h
theorem oc_len (o : Nat → Option Addr) (lo n : Nat) : (oc o lo n).size = n := by simp [oc]
theorem oc_one (o : Nat → Option Addr) (lo n : Nat) : (oc o lo n).all (·.oneCell') = true := by
  unfold oc
  refine all_oneCell_toArray fun v hv => ?_
  rw [List.mem_map] at hv
  obtain ⟨i, _, rfl⟩ := hv
  rfl
theorem oc_range {w : World} {b off : Nat} {o : Nat → Option Addr} {lo n : Nat} (h : ∀ x, x < n → w.cell? ⟨b, off + x, none⟩ = some (.pointer (o (lo + x)))) : w.rangeAt b off (oc o lo n).toList := by
  intro j v hv
  rw [Array.getElem?_toList] at hv
  have hj : j < n := by
    have := (Array.getElem?_eq_some_iff.1 hv).1
    rwa [oc_len] at this
  rw [oc_get hj] at hv
  cases hv
  exact h j hj

/-- Behind the two copies. -/
theorem Fill.kept {w0 w : World} {S n : Nat} {key : Nat → Nat} (h : Fill w0 w S n n key) (o : Nat → Option Addr) (ho : ∀ x, x < 30 → w.cell? ⟨S - 2, x, none⟩ = some (.pointer (o x))) (ob : Obj) :
    Kept w0 (((w.alloc (.cells (oc o 0 18) 49)).alloc (.cells (oc o 18 12) 50)).alloc ob) S n w.heap.size key o := by
  have hz := h.size
  have h3 : Outside [] w (((w.alloc (.cells (oc o 0 18) 49)).alloc (.cells (oc o 18 12) 50)).alloc ob) := (((Outside.refl [] w).alloc _).alloc _).alloc _
  have hbel : Below w.heap.size w (((w.alloc (.cells (oc o 0 18) 49)).alloc (.cells (oc o 18 12) 50)).alloc ob) := h3.below (Below.refl _ w) (Nat.le_refl _) (by simp)
  have hq := lt_of_block h.q
  have hbk : ∀ j, j < n → bk S j < w.heap.size := fun j hj => by unfold bk; omega
  refine ⟨h3.obj h.nb (by simp), fun x hx => h3.cell (ho x hx) (by simp), h.grp1.below hbel hq hbk, h.grp2.below hbel hq hbk, fun i hi => h3.cell ?_ (by simp), fun i hi => h3.cell ?_ (by simp), fun x hx => ?_, fun x hx => ?_, by simp, h.out.then h3 (by simp)⟩
  · rw [cell_of_row w _ _ _ 46 (0, 0) h.ws]
    simp [wsc, hi]
  · obtain ⟨pr, hp⟩ := h.wt i hi
    rw [cell_of_row w _ _ _ 99 (0, 0) hp]
    rfl
  · have e := (((Outside.refl [] _).alloc (.cells (oc o 18 12) 50)).alloc ob).obj (heap_alloc_new w (.cells (oc o 0 18) 49)) (by simp)
    rw [cell_of_row _ _ _ _ 49 (0, 0) e, oc_get hx, Nat.zero_add]
  · have e := ((Outside.refl [] _).alloc ob).obj (heap_alloc_new (w.alloc (.cells (oc o 0 18) 49)) (.cells (oc o 18 12) 50)) (by simp)
    rw [World.size_alloc] at e
    rw [cell_of_row _ _ _ _ 50 (0, 0) e, oc_get hx]

/-- What the two loops that lay out 'expected' know. -/
structure Exp (w0 w : World) (S n C : Nat) (key : Nat → Nat) (o : Nat → Option Addr) (ao : Option Addr) (cap : Nat) (gs : List Nat) : Prop where
  kept : Kept w0 w S n C key o
  slc : Slc w 46 1 ao gs.length cap (pvs (gs.map (bk S)))
  own : ∀ g ∈ ownB ao cap, C + 2 ≤ g

theorem pvs_map_len (S : Nat) (gs : List Nat) : (pvs (gs.map (bk S))).length = gs.length := by simp [pvs]

theorem Exp.next {w0 w w2 : World} {S n C : Nat} {key : Nat → Nat} {o : Nat → Option Addr} {ao ao' : Option Addr} {cap cap' : Nat} {gs : List Nat} {i : Nat} (h : Exp w0 w S n C key o ao cap gs) (hS : 3 ≤ S) (hS0 : w0.heap.size + 3 = S) (hC : C = S + 2 * n) (ob : Obj)
    (hs : Slc w2 46 1 ao' (gs.length + 1) cap' (pvs (gs.map (bk S)) ++ [pv (bk S i)])) (ho : Outside (ownB ao cap) (w.alloc ob) w2) (how : ∀ g ∈ ownB ao' cap', g ∈ ownB ao cap ∨ (w.alloc ob).heap.size ≤ g) : Exp w0 w2 S n C key o ao' cap' (gs ++ [i]) := by
  refine ⟨h.kept.outside hS hS0 hC (((Outside.refl _ w).alloc ob).trans ho) h.own, ?_, fun g hg => ?_⟩
  · rw [pvs_snoc] at hs
    simpa using hs
  · rcases how g hg with h1 | h1
    · exact h.own g h1
    · simp at h1
      have := h.kept.sz
      omega

end Go.Proofs.Ybulkdukm
