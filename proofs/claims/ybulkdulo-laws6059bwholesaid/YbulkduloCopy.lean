/-
  'make' AND 'copy' OF STRINGS, AS LAWS FOR THE WALK.
-/
import Derived.Test.YbulkduloWords
import Derived.Laws.IdiomCopy
import Derived.Laws.CopyRow
import Derived.Deep.WholeRow
namespace Go.Proofs.Ybulkdulo
open Go.RowKit
set_option linter.unusedVariables false

/-- n empty strings. -/
def blank (n : Nat) : Array Value := (List.replicate n (Value.string ByteArray.empty)).toArray
/-- The strings of the places, as cells. -/
def strv (sx : Nat → ByteArray) (is : List Nat) : List Value := is.map fun j => .string (sx j)
theorem strv_one (sx : Nat → ByteArray) (is : List Nat) : ∀ v ∈ strv sx is, v.oneCell' = true := by
  intro v hv
  simp only [strv, List.mem_map] at hv
  obtain ⟨j, _, rfl⟩ := hv
  rfl

theorem made_blank (n : Nat) : madeCells (Value.string ByteArray.empty).cells (n * 1) = blank n := by
  unfold madeCells blank
  apply Array.ext_getElem?
  intro i
  by_cases h : i < n
  · simp [h, Value.cells, Nat.mod_one]
  · simp [h]
theorem mk_full (n : Nat) (hn : n ≤ 1048576) (W : World) : (Instr.makeSlice 22 (.int .i64 (n : Int)) (.int .i64 (n : Int))).run Yba.prog W = .ok (.slice (some ⟨W.heap.size, 0, none⟩) n n) (W.alloc (.cells (blank n) 9)) := by
  obtain ⟨i9, hi9, hz0, hz1, hz2⟩ := info_parts Yba.info9
  have := run_make (P := Yba.prog) W 22 9 i9 (.string ByteArray.empty) Yba.underlying22 hi9 hz0 .i64 .i64 (n : Int) (n : Int) (by omega) (by omega) (by rw [hz2]; omega) (by omega)
  rw [this, hz1, Int.toNat_natCast, made_blank]

theorem run_copyN {P : Program} (w : World) (dT sT ty elem : TypeId) (size g o dLen dCap : Nat) (a : Addr) (sLen sCap : Nat) (cur : Array Value) (t : TypeId) (cs : List Value)
    (hu : P.underlying dT = some (.slice elem)) (hs : (P.info? elem).map (·.size) = some size)
    (hg : w.heap[g]? = some (.cells cur t (0, 0))) (hn : cs.length = Nat.min sLen dLen * size)
    (hsrc : ∀ j v, cs[j]? = some v → w.cell? (a.add j) = some v) (hfit : o + cs.length ≤ cur.size) (h1 : ∀ v ∈ cs, v.oneCell' = true) :
    (Builtin.copy_ #[dT, sT] ty #[.slice (some ⟨g, o, none⟩) dLen dCap, .slice (some a) sLen sCap]).run P w =
      .ok (goInt (Nat.min sLen dLen)) (w.setRow g (cur.toList.take o ++ cs ++ cur.toList.drop (o + cs.length)).toArray) := by
  have hl := run_loadCells_list (P := P) w a cs hsrc
  rw [hn] at hl
  have hst := run_storeCells_at P g o t cs 0 cur w hg (by simpa using hfit) h1
  cases hq : P.info? elem with
  | none => simp [hq] at hs
  | some i =>
    have hi : i.size = size := by simpa [hq] using hs
    simp [Builtin.copy_, run_underlying hu, Builtin.lenOf, Builtin.firstCells, sizeOf, typeInfo, hq, hi, hl, hst]

theorem run_copy_zero (w : World) (ty : TypeId) (x : Addr) (a : Option Addr) (cap : Nat) : (Builtin.copy_ #[22, 22] ty #[.slice (some x) 0 0, .slice a 0 cap]).run Yba.prog w = .ok (goInt 0) w := by
  cases a with
  | none => simp [Builtin.copy_, run_underlying Yba.underlying22, Builtin.lenOf, Builtin.firstCells, Yba.sizeOf9, storeCells]
  | some a => simp [Builtin.copy_, run_underlying Yba.underlying22, Builtin.lenOf, Builtin.firstCells, Yba.sizeOf9, storeCells, loadCells, loadCellsFrom]

theorem sz9 : (Yba.prog.info? 9).map (·.size) = some 1 := by kernel_rfl

/-- All of them into the block that was made last. -/
theorem run_copy_all (w : World) (ty : TypeId) (a : Option Addr) (n cap : Nat) (sx : Nat → ByteArray) (hsrc : Src w a n sx) :
    (Builtin.copy_ #[22, 22] ty #[.slice (some ⟨w.heap.size, 0, none⟩) n n, .slice a n cap]).run Yba.prog (w.alloc (.cells (blank n) 9)) = .ok (goInt n) (w.alloc (.cells (strv sx (List.range n)).toArray 9)) := by
  by_cases h0 : n = 0
  · subst h0
    rw [run_copy_zero]
    rfl
  · obtain ⟨b, off, rfl, hb, hc⟩ := hsrc (by omega)
    have hlen : (strv sx (List.range n)).length = n := by simp [strv]
    have hr := run_copyN (P := Yba.prog) (w.alloc (.cells (blank n) 9)) 22 22 ty 9 1 w.heap.size 0 n n ⟨b, off, none⟩ n cap (blank n) 9 (strv sx (List.range n)) Yba.underlying22 sz9 (heap_alloc_new w _) (by rw [hlen]; simp) (fun j v hv => by
      have hj : j < n := by have := (List.getElem?_eq_some_iff.1 hv).1; omega
      have ea : (⟨b, off, none⟩ : Addr).add j = ⟨b, off + j, none⟩ := by unfold Addr.add; split <;> simp_all
      rw [ea, ((Outside.refl [] w).alloc _).cell (hc j hj).2 (by simp)]
      simp [strv, hj] at hv
      rw [hv]) (by rw [hlen]; simp [blank]) (strv_one sx _)
    rw [hr, World.setRow_alloc_new]
    have e1 : (blank n).toList.drop (0 + (strv sx (List.range n)).length) = [] := by
      rw [hlen]
      apply List.drop_eq_nil_of_le
      simp [blank]
    rw [e1]
    simp

section
variable {ops : Array Oper} {rest : List Oper} {op : Oper} {a : Act} {w : World} {Q : Exit → Act → World → Prop}
theorem wcopy {x : Option Addr} {n cap b : Nat} {sx : Nat → ByteArray} (ho : op.op = .call { callee := .builtin .copy, args := #[.tmp 41, .tmp 42], argTypes := #[22, 22] }) (hg : op.guard = none) (hsrc : Src w x n sx) (hb : b = w.heap.size) (hd : a.eval (.tmp 41) = .slice (some ⟨b, 0, none⟩) n n) (hs : a.eval (.tmp 42) = .slice x n cap)
    (h : wpList Yba.prog ops Q rest (a.put op.dst (goInt n)) (w.alloc (.cells (strv sx (List.range n)).toArray 9))) : wpList Yba.prog ops Q (op :: rest) a (w.alloc (.cells (blank n) 9)) := by
  subst hb
  refine wpList_plain hg fun K hK => ?_
  have hrun := run_copy_all w op.type x n cap sx hsrc
  unfold Oper.wp
  simp [execOp, ho, resolve, invoke, builtin, hd, hs, hrun, Result.andThen]
  exact hK _ _ h
end

end Go.Proofs.Ybulkdulo
