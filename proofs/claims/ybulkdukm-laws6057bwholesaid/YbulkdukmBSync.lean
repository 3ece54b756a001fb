/-
  THE MUTEX AND THE ATOMIC POINTER (law B).
-/
import Derived.Test.YbulkdukmSlc
import Derived.Test.YbulkdukmProg
import Derived.Conc.MuLib
import Derived.Conc.MuLone
import Derived.Laws.LoneSync
import Derived.Lib.Builder
import Derived.KernelRfl
import Derived.WalkLawsBesides
import Derived.WalkSpells
import Derived.Outline
import Derived.Deep.RegionWith
namespace Go.Proofs
abbrev Yba.muLink : Go.Conc.Locks.MuLink := { lock := 33, unlock := 19, ilock := 45, iunlock := 37, lockSlow := 55, unlockSlow := 52, disable := 46, enable := 47, acquire := 49, relMerge := 50, cas32 := 48, add32 := 51, tMutex := 73, tIMutex := 71, tPMutex := 140, tPIMutex := 147, tPI32 := 149, tUP := 87, tNoCopy := 68, tU32 := 69 }
theorem Yba.muLib : Go.Conc.Locks.MuLib Yba.prog Yba.muLink :=
  ⟨Yba.func33, Yba.func19, Yba.func45, Yba.func37, Yba.func46, Yba.func47, Yba.func49, Yba.func50, Yba.func48, Yba.func51, Yba.underlying71, Yba.runUnderlying71, Yba.sizeOf71, Yba.isAgg71, Yba.zeroValue71, Yba.underlying73, Yba.runUnderlying73, Yba.sizeOf73, Yba.isAgg73, Yba.zeroValue73, Yba.underlying140, Yba.runUnderlying140, Yba.sizeOf140, Yba.isAgg140, Yba.zeroValue140, Yba.underlying147, Yba.runUnderlying147, Yba.sizeOf147, Yba.isAgg147, Yba.zeroValue147, Yba.underlying149, Yba.runUnderlying149, Yba.sizeOf149, Yba.isAgg149, Yba.zeroValue149, Yba.underlying87, Yba.runUnderlying87, Yba.sizeOf87, Yba.isAgg87, Yba.zeroValue87, Yba.underlying68, Yba.runUnderlying68, Yba.sizeOf68, Yba.isAgg68, Yba.zeroValue68, Yba.underlying21, Yba.runUnderlying21, Yba.sizeOf21, Yba.isAgg21, Yba.zeroValue21, (by kernel_rfl)⟩
end Go.Proofs
namespace Go.Proofs.Ybulkdukm
open Go.RowKit
set_option linter.unusedVariables false

set_option maxRecDepth 100000 in
/-- The lock is free: it is taken. -/
theorem itry_free (a : Addr) (w : World) (hc : w.cell? a = some (.int .i32 0)) (hz : w.frozen? a = false) :
    Calls Yba.prog 36 #[.pointer (some a)] w fun e w' => e = .returned (.bool true) ∧ w' = w.setCell a (.int .i32 1) := by
  have hd := Go.MuLone.disable Yba.muLib
  have he := Go.MuLone.enable Yba.muLib
  have ha := Go.MuLone.acquire Yba.muLib
  have hcas := run_call_cas_hit (P := Yba.prog) Yba.func48 (by kernel_rfl) (by kernel_rfl) (by kernel_rfl) .i32 (by kernel_rfl) (y := 1) hc hz
  have hc' : (w.setCell a (.int .i32 1)).cell? a = some (.int .i32 1) := by simp [go_sem, hc]
  have hcv := run_convert_to_unsafe (P := Yba.prog) (src := 147) (dst := 87) Yba.underlying147 Yba.underlying87 (by kernel_rfl) hc'
  go_enter Yba.func36, Yba.ntmps36
  go_wp2
  go_ret
  exact ⟨rfl, rfl⟩

/-- '(*sync.Mutex).TryLock', the lock free. -/
theorem try_free (b o : Nat) (w : World) (hc : w.cell? ⟨b, o, none⟩ = some (.int .i32 0)) (hz : w.frozen? ⟨b, o, none⟩ = false) :
    Calls Yba.prog 18 #[.pointer (some ⟨b, o, none⟩)] w fun e w' => e = .returned (.bool true) ∧ w' = w.setCell ⟨b, o, none⟩ (.int .i32 1) := by
  have H := hide (itry_free ⟨b, o, none⟩ w hc hz)
  clear hc hz
  go_enter Yba.func18, Yba.ntmps18
  go_wp2_with (go_at_call 36; go_must (refine (unhide H).mono ?_; rintro e w' ⟨rfl, rfl⟩))
  go_ret
  exact ⟨rfl, rfl⟩

theorem store_run (a : Addr) (o : Option Addr) (u : Value) (w : World) (hc : w.cell? a = some u) (hz : w.frozen? a = false) : (callFunc 32 #[.pointer (some a), .pointer o]).run Yba.prog w = .ok (.value (.tuple #[])) (w.setCell a (.pointer o)) := by
  rw [run_callFunc_extern (P := Yba.prog) Yba.func32 (by kernel_rfl) (by kernel_rfl) (by kernel_rfl) (show Extern.find Yba.f32 = some Extern.Atomic.storeT by kernel_rfl)]
  change (Sem.run Yba.prog (do
    store (← asAddr (.pointer (some a))) (.pointer o) .atomic
    pure Extern.Atomic.none_) w).andThen _ = _
  simp [asAddr, hc, hz, run_store Yba.prog w a (.pointer o) .atomic rfl, Result.andThen, Extern.Atomic.none_]
theorem load_run (a : Addr) (o : Option Addr) (w : World) (hc : w.cell? a = some (.pointer o)) : (callFunc 38 #[.pointer (some a)]).run Yba.prog w = .ok (.value (.pointer o)) w := by
  rw [run_callFunc_extern (P := Yba.prog) Yba.func38 (by kernel_rfl) (by kernel_rfl) (by kernel_rfl) (show Extern.find Yba.f38 = some (Extern.Atomic.loadT .ptr) by kernel_rfl)]
  change (Sem.run Yba.prog (do Extern.Atomic.read .ptr (← asAddr (.pointer (some a)))) w).andThen _ = _
  simp [Extern.Atomic.read, asAddr, hc, Result.andThen]

/-- '.. .Store(w)'. -/
theorem store_any (a : Addr) (b : Nat) (u v : Value) (w : World) (hc : w.cell? a = some u) (hz : w.frozen? a = false) (hb : w.cell? ⟨b, 0, none⟩ = some v) :
    Calls Yba.prog 12 #[.pointer (some a), .pointer (some ⟨b, 0, none⟩)] w fun e w' => e = .returned (.tuple #[]) ∧ w' = w.setCell a (.pointer (some ⟨b, 0, none⟩)) := by
  have hst := store_run a (some ⟨b, 0, none⟩) u w hc hz
  have hcv := run_convert_to_unsafe (P := Yba.prog) (src := 46) (dst := 87) Yba.underlying46 Yba.underlying87 (by kernel_rfl) hb
  go_enter Yba.func12, Yba.ntmps12
  go_wp2
  go_end0
  exact ⟨rfl, rfl⟩
theorem store_nil (a : Addr) (u : Value) (w : World) (hc : w.cell? a = some u) (hz : w.frozen? a = false) :
    Calls Yba.prog 12 #[.pointer (some a), .pointer none] w fun e w' => e = .returned (.tuple #[]) ∧ w' = w.setCell a (.pointer none) := by
  have hst := store_run a none u w hc hz
  have hcv : (convert 46 87 (.pointer none)).run Yba.prog w = .ok (.pointer none) w := by
    simp [convert, run_underlying Yba.underlying46, run_underlying Yba.underlying87, Conv.unsafePointer]
  go_enter Yba.func12, Yba.ntmps12
  go_wp2
  go_end0
  exact ⟨rfl, rfl⟩
/-- '.. .Load()'. -/
theorem load_nil (a : Addr) (w : World) (hc : w.cell? a = some (.pointer none)) :
    Calls Yba.prog 20 #[.pointer (some a)] w fun e w' => e = .returned (.pointer none) ∧ w' = w := by
  have hst := load_run a none w hc
  have hcv : (convert 87 46 (.pointer none)).run Yba.prog w = .ok (.pointer none) w := by
    simp [convert, run_underlying Yba.underlying46, run_underlying Yba.underlying87, Conv.unsafePointer]
  go_enter Yba.func20, Yba.ntmps20
  go_wp2
  go_ret
  exact ⟨rfl, rfl⟩
theorem lies99 : liesAt Yba.prog Yba.prog.depth 99 (10 / Yba.prog.cellsOf 99) 0 99 1 = true := by kernel_rfl
theorem load_any (a : Addr) (b : Nat) (cs : Array Value) (w : World) (hc : w.cell? a = some (.pointer (some ⟨b, 0, none⟩))) (hb : w.heap[b]? = some (.cells cs 99 (0, 0))) (hcs : cs.size = 10) :
    Calls Yba.prog 20 #[.pointer (some a)] w fun e w' => e = .returned (.pointer (some ⟨b, 0, none⟩)) ∧ w' = w := by
  have hst := load_run a (some ⟨b, 0, none⟩) w hc
  obtain ⟨i99, hi99⟩ : ∃ i, Yba.prog.info? 99 = some i := by
    cases h : Yba.prog.info? 99 with
    | none => exact absurd h (by decide +kernel)
    | some i => exact ⟨i, rfl⟩
  have hsh : w.shape? b = some (99, 10) := by simp [World.shape?, hb, hcs]
  have hcv := Lib.run_from_unsafe (P := Yba.prog) w (src := 87) (dst := 46) (u := 99) ⟨b, 0, none⟩ Yba.underlying87 Yba.underlying46 hi99 hsh lies99
  clear hi99 hsh hb hcs
  go_enter Yba.func20, Yba.ntmps20
  go_wp2
  go_ret
  exact ⟨rfl, rfl⟩

end Go.Proofs.Ybulkdukm
