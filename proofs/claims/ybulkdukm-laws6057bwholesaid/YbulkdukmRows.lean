/-
  No cell of these rows narrows 'for every input' (looked for: loops, veiled, ifaces, maps, wideKeys, modest, calm, conditions, laid).
  DERIVED. THE GIVEN ROWS OF THIS SEAT. 3 by the template 'for every input the law returns true; each argument reads behind the call as it read before'; 0 by the template 'total and deterministic' (their statements: YbulkdukmTotals.lean).
  GIVEN WITH THE SEED: the statements are not yours to turn. If you find one false, say at which input.
  Laid BY PROGRAM, IN A SANDBOX (cutbox-rows.mjs): the forced cells as the released guide's own fill.sh prints them over the translation ddd9d8a88257e08f… (all of the seat's roots in one cut). By AI agents, Wed Nov 11 2026. No macro, syntax, notation, axiom, sorry.
-/
import Derived.Test.YbulkdukmChecked
import GoSem.Claim
import GoSem.ClaimJoined
import GoSem.ClaimMapViews
import Derived.JoinedTies
import Derived.KernelRfl
namespace Go.Proofs.Ybulkdukm
/- THE CELL 'sum', in the pinned program and in every row, IS THE sha256 OF THE DUMP (.gsa) THAT YbulkdukmProg.lean LOADS. Nothing in Lean hashes anything: it is a label: what it is worth is what the hold of that sum in a sandbox is worth. -/
noncomputable def Yba.pinned : Pinned := { name := "ybulkdukm", sum := "ddd9d8a88257e08fd789c5d02690662cd5baeab2496cc7185ae9f8df430219d2", checked := Yba.checked }
namespace Rows
def none {H : Type} : Left H := { results := [], args := [] }

/-- 'granlock.LawS6057AWhole': WHATEVER THE INPUT: true; the input reads as it did. -/
def lawS6057AWholeSpec : ChangeSpec := { name := "lawS6057AWhole", fn := fun _ => fun
  | [d1, d2, d3, d4, d5, d6] => { results := [.lit (.bool true)], args := [d1, d2, d3, d4, d5, d6] }
  | _ => none }
def lawS6057AWholeRow : OpenClaim := { program := "ybulkdukm", sum := "ddd9d8a88257e08fd789c5d02690662cd5baeab2496cc7185ae9f8df430219d2", func := "example.com/granlock/granlock.LawS6057AWhole", spec := "lawS6057AWhole", inPlace := ["internal/bytealg.IndexByteString"], recurses := true, apart := false }
def LawS6057AWholeSaid : Prop := lawS6057AWholeRow.holds Yba.pinned (OpenSpec.ofChange lawS6057AWholeSpec)

/-- ITS FALSE NEIGHBOUR: 'it returns false'. Refute it at one input. -/
def lawS6057AWholeWrong : ChangeSpec := { name := "lawS6057AWhole", fn := fun _ => fun
  | [d1, d2, d3, d4, d5, d6] => { results := [.lit (.bool false)], args := [d1, d2, d3, d4, d5, d6] }
  | _ => none }
def LawS6057AWholeWrongFalsely : Prop := lawS6057AWholeRow.holds Yba.pinned (OpenSpec.ofChange lawS6057AWholeWrong)

/-- 'granlock.LawS6057BWhole': WHATEVER THE INPUT: true; the input reads as it did. -/
def lawS6057BWholeSpec : ChangeSpec := { name := "lawS6057BWhole", fn := fun _ => fun
  | [d1, d2, d3, d4, d5] => { results := [.lit (.bool true)], args := [d1, d2, d3, d4, d5] }
  | _ => none }
def lawS6057BWholeRow : OpenClaim := { program := "ybulkdukm", sum := "ddd9d8a88257e08fd789c5d02690662cd5baeab2496cc7185ae9f8df430219d2", func := "example.com/granlock/granlock.LawS6057BWhole", spec := "lawS6057BWhole", inPlace := ["sync/atomic.StorePointer", "(*internal/sync.Mutex).Lock", "internal/race.Disable", "sync/atomic.CompareAndSwapInt32", "internal/race.Enable", "internal/race.Acquire", "(*internal/sync.Mutex).lockSlow", "internal/sync.runtime_canSpin", "internal/sync.runtime_doSpin", "internal/sync.throw", "internal/sync.runtime_nanotime", "internal/sync.runtime_SemacquireMutex", "sync/atomic.AddInt32", "(*internal/sync.Mutex).Unlock", "internal/race.ReleaseMerge", "(*internal/sync.Mutex).unlockSlow", "internal/sync.fatal", "internal/sync.runtime_Semrelease", "(*internal/sync.Mutex).TryLock", "sync/atomic.LoadPointer"], apart := false }
def LawS6057BWholeSaid : Prop := lawS6057BWholeRow.holds Yba.pinned (OpenSpec.ofChange lawS6057BWholeSpec)

/-- ITS FALSE NEIGHBOUR: 'it returns false'. Refute it at one input. -/
def lawS6057BWholeWrong : ChangeSpec := { name := "lawS6057BWhole", fn := fun _ => fun
  | [d1, d2, d3, d4, d5] => { results := [.lit (.bool false)], args := [d1, d2, d3, d4, d5] }
  | _ => none }
def LawS6057BWholeWrongFalsely : Prop := lawS6057BWholeRow.holds Yba.pinned (OpenSpec.ofChange lawS6057BWholeWrong)

/-- 'granlock.LawS6057CWhole': WHATEVER THE INPUT: true; the input reads as it did. -/
def lawS6057CWholeSpec : ChangeSpec := { name := "lawS6057CWhole", fn := fun _ => fun
  | [d1, d2] => { results := [.lit (.bool true)], args := [d1, d2] }
  | _ => none }
def lawS6057CWholeRow : OpenClaim := { program := "ybulkdukm", sum := "ddd9d8a88257e08fd789c5d02690662cd5baeab2496cc7185ae9f8df430219d2", func := "example.com/granlock/granlock.LawS6057CWhole", spec := "lawS6057CWhole", unfollowed := true, recurses := true, apart := false }
def LawS6057CWholeSaid : Prop := lawS6057CWholeRow.holds Yba.pinned (OpenSpec.ofChange lawS6057CWholeSpec)

/-- ITS FALSE NEIGHBOUR: 'it returns false'. Refute it at one input. -/
def lawS6057CWholeWrong : ChangeSpec := { name := "lawS6057CWhole", fn := fun _ => fun
  | [d1, d2] => { results := [.lit (.bool false)], args := [d1, d2] }
  | _ => none }
def LawS6057CWholeWrongFalsely : Prop := lawS6057CWholeRow.holds Yba.pinned (OpenSpec.ofChange lawS6057CWholeWrong)

end Rows
end Go.Proofs.Ybulkdukm
