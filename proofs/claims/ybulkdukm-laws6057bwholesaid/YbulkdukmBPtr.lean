/-
  '!=' OF A POINTER AND ITSELF (law B).
-/
import Derived.Test.YbulkdukmBHeld
import Derived.LaidEqlPtr
import Derived.Laws.StructEq
import Derived.ChangeKeysEq
import Derived.BigQuiet
namespace Go.Proofs.Ybulkdukm
open Go.RowKit
set_option linter.unusedVariables false

theorem eqB (t e : TypeId) (ht : Yba.prog.underlying t = some (.pointer e)) (hi : (Yba.prog.info? e).isSome = true) (d : Nat) (a : Option Addr) (w : World) : (Op.equalIn (d + 1) t (.pointer a) (.pointer a)).run Yba.prog w = .ok true w := by
  obtain ⟨i, hi'⟩ := Option.isSome_iff_exists.1 hi
  cases a with
  | none => simp [Op.equalIn, run_underlying ht]
  | some a => simp [Op.equalIn, run_underlying ht, sizeOf, typeInfo, hi', run_sameAddr_same]
theorem neqB (t e : TypeId) (ht : Yba.prog.underlying t = some (.pointer e)) (hi : (Yba.prog.info? e).isSome = true) (a : Option Addr) (w : World) : (binOp .neq t (.pointer a) (.pointer a)).run Yba.prog w = .ok (.bool false) w := by
  simp only [binOp]
  simp [Op.equal, Op.maxDepth, eqB t e ht hi 9999]
theorem neqB46 (a : Option Addr) (w : World) : (binOp .neq 46 (.pointer a) (.pointer a)).run Yba.prog w = .ok (.bool false) w := neqB 46 99 Yba.underlying46 (by decide +kernel) a w
theorem neqB44 (a : Option Addr) (w : World) : (binOp .neq 44 (.pointer a) (.pointer a)).run Yba.prog w = .ok (.bool false) w := neqB 44 64 Yba.underlying44 (by decide +kernel) a w
theorem neqB29 (a : Option Addr) (w : World) : (binOp .neq 29 (.pointer a) (.pointer a)).run Yba.prog w = .ok (.bool false) w := neqB 29 3 Yba.underlying29 (by decide +kernel) a w

/-- An entry of a list of the law's own. -/
theorem Slc.px {w : World} {e : TypeId} {a : Option Addr} {n c k x : Nat} {l : List Nat} {f : Nat → Nat} (h : Slc w e 1 a n c (pvs (l.map f))) (hn : n = l.length) (hk : l[k]? = some x) : ∃ g off, a = some ⟨g, off, none⟩ ∧ w.cell? ⟨g, off + k, none⟩ = some (.pointer (some ⟨f x, 0, none⟩)) := by
  have hlt := (List.getElem?_eq_some_iff.1 hk).1
  have hcap : 0 < c := by have := h.2.1; omega
  obtain ⟨g, off, _, rfl, _⟩ := h.at_ hcap
  refine ⟨g, off, rfl, ?_⟩
  rw [h.cell hcap k (by omega)]
  simp [pvs, hk, pv]

end Go.Proofs.Ybulkdukm
