/-
  THE CALL OF 'served' IN THE LAW (law C): what it wants, what it leaves.
-/
import Derived.Test.YbulkdukmKept
namespace Go.Proofs.Ybulkdukm
open Go.RowKit
set_option linter.unusedVariables false

/-- The world at the call: the limit, the slice to fill, the queue's box. -/
def atServe (w : World) (S limit : Nat) : World := ((w.alloc (.cells #[.int .i64 (limit : Int)] 3)).alloc (.cells #[.slice none 0 0] 78)).alloc (.cells #[.pointer (some ⟨S - 2, 0, none⟩)] 45)

theorem atServe_out (w : World) (S limit : Nat) : Outside [] w (atServe w S limit) := (((Outside.refl [] w).alloc _).alloc _).alloc _
theorem atServe_0 (w : World) (S limit : Nat) : (atServe w S limit).heap[w.heap.size]? = some (.cells #[.int .i64 (limit : Int)] 3 (0, 0)) :=
  (((Outside.refl [] _).alloc _).alloc _).obj (heap_alloc_new w (.cells #[.int .i64 (limit : Int)] 3)) (by simp)
theorem atServe_1 (w : World) (S limit : Nat) : (atServe w S limit).heap[w.heap.size + 1]? = some (.cells #[.slice none 0 0] 78 (0, 0)) := by
  have e := ((Outside.refl [] _).alloc (.cells #[.pointer (some ⟨S - 2, 0, none⟩)] 45)).obj (heap_alloc_new (w.alloc (.cells #[.int .i64 (limit : Int)] 3)) (.cells #[.slice none 0 0] 78)) (by simp)
  rw [World.size_alloc] at e
  exact e
theorem atServe_2 (w : World) (S limit : Nat) : (atServe w S limit).heap[w.heap.size + 1 + 1]? = some (.cells #[.pointer (some ⟨S - 2, 0, none⟩)] 45 (0, 0)) := by
  have e := heap_alloc_new ((w.alloc (.cells #[.int .i64 (limit : Int)] 3)).alloc (.cells #[.slice none 0 0] 78)) (.cells #[.pointer (some ⟨S - 2, 0, none⟩)] 45)
  rw [World.size_alloc, World.size_alloc] at e
  exact e

theorem Exp.serve {w0 w : World} {S n C : Nat} {key : Nat → Nat} {o : Nat → Option Addr} {ao : Option Addr} {cap : Nat} {gs : List Nat} (h : Exp w0 w S n C key o ao cap gs) (hS : 3 ≤ S) (hS0 : w0.heap.size + 3 = S) (hC : C = S + 2 * n) (hk : ∀ i, key i < 15) (hn : n ≤ 65536) (limit : Nat) (hl : limit ≤ n + 1) :
    Calls Yba.prog 39 #[.func (.func 21) #[] #[.pointer (some ⟨w.heap.size + 1, 0, none⟩), .pointer (some ⟨w.heap.size, 0, none⟩), .pointer (some ⟨S - 3, 0, none⟩)], .pointer (some ⟨w.heap.size + 1 + 1, 0, none⟩)] (atServe w S limit)
      fun e w' => e = .returned (.tuple #[]) ∧ Served (atServe w S limit) w' (w.heap.size + 1) n (bk S) key limit := by
  have hz := h.kept.sz
  have hk5 := h.kept.outside hS hS0 hC (atServe_out w S limit) (by simp)
  exact served_any (S - 2) (w.heap.size + 1 + 1) n (w.heap.size + 1) w.heap.size (S - 3) limit (bk S) key _ (atServe_2 w S limit) hk5.g1 hk5.g2 hk hn hl ⟨atServe_1 w S limit, Slc.nil _ _ _ _⟩ (atServe_0 w S limit) hk5.nb (by omega) (fun j hj => by unfold bk; omega)

/-- What stands behind it. -/
structure Aft (w0 w : World) (S n C : Nat) (key : Nat → Nat) (o : Nat → Option Addr) (ao : Option Addr) (cap : Nat) (gs : List Nat) (LB limit : Nat) (aoG : Option Addr) (capG : Nat) (hs : List Nat) : Prop where
  kept : Kept w0 w S n C key o
  slc : Slc w 46 1 ao gs.length cap (pvs (gs.map (bk S)))
  got : LV w (LB + 1) aoG capG hs
  lim : w.cell? ⟨LB, 0, none⟩ = some (.int .i64 (limit : Int))

theorem Aft.outside {w0 w w' : World} {S n C : Nat} {key : Nat → Nat} {o : Nat → Option Addr} {ao : Option Addr} {cap : Nat} {gs : List Nat} {LB limit : Nat} {aoG : Option Addr} {capG : Nat} {hs : List Nat} (h : Aft w0 w S n C key o ao cap gs LB limit aoG capG hs) (hS : 3 ≤ S) (hS0 : w0.heap.size + 3 = S) (hC : C = S + 2 * n) (ho : Outside [] w w') : Aft w0 w' S n C key o ao cap gs LB limit aoG capG hs :=
  ⟨h.kept.outside hS hS0 hC ho (by simp), h.slc.outside ho (by simp), h.got.outside ho (by simp) (by simp), ho.cell h.lim (by simp)⟩

theorem Exp.after {w0 w w6 : World} {S n C : Nat} {key : Nat → Nat} {o : Nat → Option Addr} {ao : Option Addr} {cap : Nat} {gs : List Nat} (h : Exp w0 w S n C key o ao cap gs) (hS : 3 ≤ S) (hS0 : w0.heap.size + 3 = S) (hC : C = S + 2 * n) (limit : Nat)
    (hs : Served (atServe w S limit) w6 (w.heap.size + 1) n (bk S) key limit) : ∃ aoG capG, Aft w0 w6 S n C key o ao cap gs w.heap.size limit aoG capG (((allOf key n).take (wantOf n limit)).map (bk S)) := by
  obtain ⟨aoG, capG, h1, h2⟩ := hs
  have hz := h.kept.sz
  have h5 := h.kept.outside hS hS0 hC (atServe_out w S limit) (by simp)
  have ho : Outside [w.heap.size + 1] (atServe w S limit) w6 := h2.out.mono (by simp [ownB])
  have hsl := h.slc.outside (atServe_out w S limit) (by simp)
  refine ⟨aoG, capG, h5.outside hS hS0 hC ho (by simp; omega), hsl.outside ho (fun g hg => ?_), h1, ho.cell ?_ (by simp)⟩
  · have := h.slc.lt g hg
    simp
    omega
  · rw [cell_of_row _ _ _ _ 3 (0, 0) (atServe_0 w S limit)]
    rfl

end Go.Proofs.Ybulkdukm
