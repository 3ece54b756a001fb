/-
  '==' OF TWO POINTERS THAT ARE ONE, OF TWO ARRAYS OF LISTS THAT ARE ONE (law C).
-/
import Derived.Test.YbulkdukmKept
import Derived.LaidEqlPtr
import Derived.Laws.StructEq
import Derived.ChangeKeysEq
namespace Go.Proofs.Ybulkdukm
open Go.RowKit
set_option linter.unusedVariables false

theorem eq46 (d : Nat) (a : Option Addr) (w : World) : (Op.equalIn (d + 1) 46 (.pointer a) (.pointer a)).run Yba.prog w = .ok true w := by
  obtain ⟨i99, hi99⟩ : ∃ i, Yba.prog.info? 99 = some i := by
    cases h : Yba.prog.info? 99 with
    | none => exact absurd h (by decide +kernel)
    | some i => exact ⟨i, rfl⟩
  cases a with
  | none => simp [Op.equalIn, run_underlying Yba.underlying46]
  | some a => simp [Op.equalIn, run_underlying Yba.underlying46, sizeOf, typeInfo, hi99, run_sameAddr_same]

theorem part46 (cs : Array Value) (off : Nat) (v : Value) (h : cs[off]? = some v) (w : World) : (part 46 cs off).run Yba.prog w = .ok v w := by
  simp [part, Yba.isAgg46, h]
theorem part48 (cs : Array Value) (off : Nat) (w : World) : (part 48 cs off).run Yba.prog w = .ok (.agg (cs.extract off (off + 2))) w := by
  simp [part, Yba.isAgg48, Yba.sizeOf48]

theorem eq48 (d : Nat) (p q : Option Addr) (w : World) : (Op.equalIn (d + 2) 48 (.agg #[.pointer p, .pointer q]) (.agg #[.pointer p, .pointer q])).run Yba.prog w = .ok true w := by
  have hS : Yba.prog.underlying 48 = some (.struct (Yba.prog.fieldsOf 48)) := by kernel_rfl
  have hp : Yba.prog.stoodInHeld 48 = false := by kernel_rfl
  rw [run_equalIn_agg w (d + 1) 48 _ _ hS hp]
  simp only [Program.fieldsOf, Yba.underlying48]
  simp [Op.eqFields, part46 #[.pointer p, .pointer q] 0 (.pointer p) rfl, part46 #[.pointer p, .pointer q] 1 (.pointer q) rfl, eq46]

theorem oc_extract {o : Nat → Option Addr} {lo n i : Nat} (h : i * 2 + 2 ≤ n) : (oc o lo n).extract (i * 2) (i * 2 + 2) = #[.pointer (o (lo + i * 2)), .pointer (o (lo + (i * 2 + 1)))] := by
  apply Array.ext_getElem?
  intro j
  rw [Array.getElem?_extract]
  rw [oc_len]
  match j with
  | 0 => simp [oc_get (o := o) (lo := lo) (show i * 2 < n by omega)]; omega
  | 1 => simp [oc_get (o := o) (lo := lo) (show i * 2 + 1 < n by omega)]; omega
  | j + 2 => simp; omega

theorem eqItems_oc (d : Nat) (o : Nat → Option Addr) (lo n : Nat) (w : World) : ∀ is : List Nat, (∀ i ∈ is, i * 2 + 2 ≤ n) → (Op.eqItems (d + 2) 48 2 (oc o lo n) (oc o lo n) is).run Yba.prog w = .ok true w
  | [], _ => by simp [Op.eqItems]
  | i :: is, h => by
    have h1 := oc_extract (o := o) (lo := lo) (h i (by simp))
    simp [Op.eqItems, part48, h1, eq48]
    exact eqItems_oc d o lo n w is (fun j hj => h j (by simp [hj]))

theorem cells48 : Yba.prog.cellsOf 48 = 2 := by kernel_rfl
theorem info48 : ∃ i, Yba.prog.info? 48 = some i := by
  cases h : Yba.prog.info? 48 with
  | none => exact absurd h (by decide +kernel)
  | some i => exact ⟨i, rfl⟩

theorem eq49 (o : Nat → Option Addr) (w : World) : (Op.equalIn 10000 49 (.agg (oc o 0 18)) (.agg (oc o 0 18))).run Yba.prog w = .ok true w := by
  obtain ⟨i, hi⟩ := info48
  rw [show (10000 : Nat) = 9999 + 1 from rfl, run_equalIn_array w 9999 _ _ Yba.underlying49 hi, cells48]
  exact eqItems_oc 9997 o 0 18 w _ (by intro i hi; simp at hi; omega)
theorem eq50 (o : Nat → Option Addr) (w : World) : (Op.equalIn 10000 50 (.agg (oc o 18 12)) (.agg (oc o 18 12))).run Yba.prog w = .ok true w := by
  obtain ⟨i, hi⟩ := info48
  rw [show (10000 : Nat) = 9999 + 1 from rfl, run_equalIn_array w 9999 _ _ Yba.underlying50 hi, cells48]
  exact eqItems_oc 9997 o 18 12 w _ (by intro i hi; simp at hi; omega)
theorem guard49 : Yba.prog.eqGuardType Yba.prog.depth 49 = false := by kernel_rfl
theorem guard50 : Yba.prog.eqGuardType Yba.prog.depth 50 = false := by kernel_rfl

theorem neq46 (a : Option Addr) (w : World) : (binOp .neq 46 (.pointer a) (.pointer a)).run Yba.prog w = .ok (.bool false) w := by
  simp only [binOp]
  simp [Op.equal, Op.maxDepth, eq46 9999]

/-- A load of a whole array in a region that draws: as the assignment of what lies there. -/
theorem quiet_load_as {P : Program} {C : World → Prop} {K : Act → Prop} {a : Act} {dst : Option Tmp} {ty t : TypeId} {x : Operand} {pos : String} {aft : Array Edge} {g : Option (Nat × Bool)} {b off : Nat} {c : Array Value} {d : TypeDesc}
    (hc : ∀ w, C w → w.rangeAt b off c.toList) (hx : a.eval x = .pointer (some ⟨b, off, none⟩)) (hu : P.underlying ty = some d) (hd : d.isRow = true) (hi : (P.info? ty).map (·.size) = some c.size)
    (h : Oper.quiet P ⟨dst, .assign (.const (.agg c)), t, pos, aft, g⟩ a C K) : Oper.quiet P ⟨dst, .load ty x, t, pos, aft, g⟩ a C K := by
  obtain ⟨v, hv, hk⟩ := h
  refine ⟨v, fun w hw => ?_, hk⟩
  have h1 := hv w hw
  have h2 := run_loadAt_mid (P := P) w b off ty c.toList d (hc w hw) hu hd (by rw [Array.length_toList]; exact hi)
  unfold Oper.quietAt execOp at h1 ⊢
  simp only [hx, Sem.run_bind, h2] at h1 ⊢
  simpa [Act.eval] using h1

/-- The whole array out of a block, as the walk's simp leaves the load. -/
theorem load_oc {w : World} {b off : Nat} {o : Nat → Option Addr} {lo n : Nat} (h : ∀ x, x < n → w.cell? ⟨b, off + x, none⟩ = some (.pointer (o (lo + x)))) : (loadCellsFrom ⟨b, off, none⟩ 0 n #[]).run Yba.prog w = .ok (oc o lo n) w := by
  have e := run_loadCells_list (P := Yba.prog) w ⟨b, off, none⟩ (oc o lo n).toList (fun j v hv => by rw [Addr.add_mid]; exact oc_range h j v hv)
  rw [Array.length_toList, oc_len] at e
  simpa [loadCells] using e

end Go.Proofs.Ybulkdukm
