/-
  SLICES OF STRINGS: 'make', 'copy', '== nil', A SLICE OF THE CALL's OWN.
-/
import Derived.Test.YbulkduloDoorSlc
import Derived.Test.YbulkduloDoorProg
import Derived.Laws.IdiomCopy
import Derived.Laws.CopyRow
import Derived.Deep.WholeRow
import Derived.WalkLawsBesides
import Derived.WalkSpells
import Derived.Outline
import Derived.Deep.RegionWith
namespace Go.Proofs.YbulkduloDoor
open Go.RowKit
set_option linter.unusedVariables false

theorem Ybad.info9 : (Ybad.prog.info? 9).map (fun i => (i.zero, i.size, i.bytes)) = some (some (.string ByteArray.empty), 1, 16) := by kernel_rfl

/-- A slice of the call's own, never nil. -/
structure Own (w0 w : World) (e : TypeId) (size : Nat) (ao : Option Addr) (n cap : Nat) (xs : List Value) : Prop where
  slc : Slc w e size ao n cap xs
  own : ∀ g ∈ ownB ao cap, w0.heap.size ≤ g
  out : Outside [] w0 w
theorem Own.outside {w0 w w' : World} {e : TypeId} {size : Nat} {ao : Option Addr} {n cap : Nat} {xs : List Value} (h : Own w0 w e size ao n cap xs) (ho : Outside [] w w') : Own w0 w' e size ao n cap xs :=
  ⟨h.slc.outside ho (by simp), h.own, h.out.trans ho⟩
theorem slc_alloc {w : World} {e : TypeId} {size : Nat} {ao : Option Addr} {n cap : Nat} {xs : List Value} (h : Slc w e size ao n cap xs) (o : Obj) : Slc (w.alloc o) e size ao n cap xs :=
  h.outside (S := []) ((Outside.refl [] w).alloc o) (by simp)
theorem Own.next {w0 w w2 : World} {e : TypeId} {size : Nat} {ao ao' : Option Addr} {n m cap cap' : Nat} {xs ys : List Value} (h : Own w0 w e size ao n cap xs) (ob : Obj)
    (hs : Slc w2 e size ao' (n + m) cap' ys) (ho : Outside (ownB ao cap) (w.alloc ob) w2) (how : ∀ g ∈ ownB ao' cap', g ∈ ownB ao cap ∨ (w.alloc ob).heap.size ≤ g) : Own w0 w2 e size ao' (n + m) cap' ys := by
  refine ⟨hs, fun g hg => ?_, h.out.then (((Outside.refl _ w).alloc ob).trans ho) (fun x hx => .inr (h.own x hx))⟩
  rcases how g hg with h1 | h1
  · exact h.own g h1
  · simp at h1
    have := h.out.size
    omega
theorem news_cells {W : World} (cs : List Value) (t : TypeId) (B : Nat) (hB : B = W.heap.size) : ∀ j u, cs[j]? = some u → (W.alloc (.cells cs.toArray t)).cell? ((⟨B, 0, none⟩ : Addr).add j) = some u := by
  subst hB
  intro j u hu
  have ea : (⟨W.heap.size, 0, none⟩ : Addr).add j = ⟨W.heap.size, j, none⟩ := by unfold Addr.add; split <;> simp_all
  rw [ea, cell_of_row _ _ _ _ t (0, 0) (heap_alloc_new W _)]
  simpa using hu

/-- The strings, as they lie; a slice that is nil has none. -/
structure Src (w : World) (a : Option Addr) (len cap : Nat) (sx : Nat → ByteArray) : Prop where
  nil : a = none → len = 0 ∧ cap = 0
  at_ : 0 < len → ∃ b off, a = some ⟨b, off, none⟩ ∧ b < w.heap.size ∧ ∀ j, j < len → w.cell? ⟨b, off + j, none⟩ = some (.string (sx j))
theorem Src.outside {w w' : World} {a : Option Addr} {len cap : Nat} {sx : Nat → ByteArray} (h : Src w a len cap sx) (ho : Outside [] w w') : Src w' a len cap sx :=
  ⟨h.nil, fun h0 => by
    obtain ⟨b, off, e, hb, hc⟩ := h.at_ h0
    exact ⟨b, off, e, Nat.lt_of_lt_of_le hb ho.size, fun j hj => ho.cell (hc j hj) (by simp)⟩⟩

/-- n empty strings. -/
def blank (n : Nat) : Array Value := (List.replicate n (Value.string ByteArray.empty)).toArray
/-- The strings of the places, as cells. -/
def strv (sx : Nat → ByteArray) (is : List Nat) : List Value := is.map fun j => .string (sx j)
theorem strv_one (sx : Nat → ByteArray) (is : List Nat) : ∀ v ∈ strv sx is, v.oneCell' = true := by
  intro v hv
  simp only [strv, List.mem_map] at hv
  obtain ⟨j, _, rfl⟩ := hv
  rfl
theorem two_one (s t : ByteArray) : ∀ u ∈ [Value.string s, .string t], u.oneCell' = true := by
  intro u hu
  simp only [List.mem_cons, List.not_mem_nil, or_false] at hu
  rcases hu with rfl | rfl <;> rfl

theorem made_blank (n : Nat) : madeCells (Value.string ByteArray.empty).cells (n * 1) = blank n := by
  unfold madeCells blank
  apply Array.ext_getElem?
  intro i
  by_cases h : i < n
  · simp [h, Value.cells, Nat.mod_one]
  · simp [h]
theorem mk_full (n : Nat) (hn : n ≤ 1048576) (W : World) : (Instr.makeSlice 22 (.int .i64 (n : Int)) (.int .i64 (n : Int))).run Ybad.prog W = .ok (.slice (some ⟨W.heap.size, 0, none⟩) n n) (W.alloc (.cells (blank n) 9)) := by
  obtain ⟨i9, hi9, hz0, hz1, hz2⟩ := info_parts Ybad.info9
  have := run_make (P := Ybad.prog) W 22 9 i9 (.string ByteArray.empty) Ybad.underlying22 hi9 hz0 .i64 .i64 (n : Int) (n : Int) (by omega) (by omega) (by rw [hz2]; omega) (by omega)
  rw [this, hz1, Int.toNat_natCast, made_blank]
theorem mk_room (n : Nat) (hn : n ≤ 1048576) (W : World) : (Instr.makeSlice 22 (.int .i64 0) (.int .i64 (2 + 2 * (n : Int)))).run Ybad.prog W = .ok (.slice (some ⟨W.heap.size, 0, none⟩) 0 (2 + 2 * n)) (W.alloc (.cells (blank (2 + 2 * n)) 9)) := by
  obtain ⟨i9, hi9, hz0, hz1, hz2⟩ := info_parts Ybad.info9
  have e : (2 + 2 * (n : Int)) = ((2 + 2 * n : Nat) : Int) := by omega
  rw [e]
  have := run_make (P := Ybad.prog) W 22 9 i9 (.string ByteArray.empty) Ybad.underlying22 hi9 hz0 .i64 .i64 0 ((2 + 2 * n : Nat) : Int) (by omega) (by omega) (by rw [hz2]; omega) (by omega)
  rw [this, hz1, Int.toNat_natCast, made_blank]
  rfl

theorem run_copyN {P : Program} (w : World) (dT sT ty elem : TypeId) (size g o dLen dCap : Nat) (a : Addr) (sLen sCap : Nat) (cur : Array Value) (t : TypeId) (cs : List Value)
    (hu : P.underlying dT = some (.slice elem)) (hs : (P.info? elem).map (·.size) = some size)
    (hg : w.heap[g]? = some (.cells cur t (0, 0))) (hn : cs.length = Nat.min sLen dLen * size)
    (hsrc : ∀ j v, cs[j]? = some v → w.cell? (a.add j) = some v) (hfit : o + cs.length ≤ cur.size) (h1 : ∀ v ∈ cs, v.oneCell' = true) :
    (Builtin.copy_ #[dT, sT] ty #[.slice (some ⟨g, o, none⟩) dLen dCap, .slice (some a) sLen sCap]).run P w =
      .ok (goInt (Nat.min sLen dLen)) (w.setRow g (cur.toList.take o ++ cs ++ cur.toList.drop (o + cs.length)).toArray) := by
  have hl := run_loadCells_list (P := P) w a cs hsrc
  rw [hn] at hl
  have hst := run_storeCells_at P g o t cs 0 cur w hg (by simpa using hfit) h1
  cases hq : P.info? elem with
  | none => simp [hq] at hs
  | some i =>
    have hi : i.size = size := by simpa [hq] using hs
    simp [Builtin.copy_, run_underlying hu, Builtin.lenOf, Builtin.firstCells, sizeOf, typeInfo, hq, hi, hl, hst]
theorem run_copy_zero (w : World) (ty : TypeId) (x : Addr) (a : Option Addr) (cap : Nat) : (Builtin.copy_ #[22, 22] ty #[.slice (some x) 0 0, .slice a 0 cap]).run Ybad.prog w = .ok (goInt 0) w := by
  cases a with
  | none => simp [Builtin.copy_, run_underlying Ybad.underlying22, Builtin.lenOf, Builtin.firstCells, Ybad.sizeOf9, storeCells]
  | some a => simp [Builtin.copy_, run_underlying Ybad.underlying22, Builtin.lenOf, Builtin.firstCells, Ybad.sizeOf9, storeCells, loadCells, loadCellsFrom]
theorem sz9 : (Ybad.prog.info? 9).map (·.size) = some 1 := by kernel_rfl

/-- All of them into the block that was made last. -/
theorem run_copy_all (w : World) (ty : TypeId) (a : Option Addr) (n cap : Nat) (sx : Nat → ByteArray) (hsrc : Src w a n cap sx) :
    (Builtin.copy_ #[22, 22] ty #[.slice (some ⟨w.heap.size, 0, none⟩) n n, .slice a n cap]).run Ybad.prog (w.alloc (.cells (blank n) 9)) = .ok (goInt n) (w.alloc (.cells (strv sx (List.range n)).toArray 9)) := by
  by_cases h0 : n = 0
  · subst h0
    rw [run_copy_zero]
    rfl
  · obtain ⟨b, off, rfl, hb, hc⟩ := hsrc.at_ (by omega)
    have hlen : (strv sx (List.range n)).length = n := by simp [strv]
    have hr := run_copyN (P := Ybad.prog) (w.alloc (.cells (blank n) 9)) 22 22 ty 9 1 w.heap.size 0 n n ⟨b, off, none⟩ n cap (blank n) 9 (strv sx (List.range n)) Ybad.underlying22 sz9 (heap_alloc_new w _) (by rw [hlen]; simp) (fun j v hv => by
      have hj : j < n := by have := (List.getElem?_eq_some_iff.1 hv).1; omega
      have ea : (⟨b, off, none⟩ : Addr).add j = ⟨b, off + j, none⟩ := by unfold Addr.add; split <;> simp_all
      rw [ea, ((Outside.refl [] w).alloc _).cell (hc j hj) (by simp)]
      simp [strv, hj] at hv
      rw [hv]) (by rw [hlen]; simp [blank]) (strv_one sx _)
    rw [hr, World.setRow_alloc_new]
    have e1 : (blank n).toList.drop (0 + (strv sx (List.range n)).length) = [] := by
      rw [hlen]
      apply List.drop_eq_nil_of_le
      simp [blank]
    rw [e1]
    simp

section
variable {ops : Array Oper} {rest : List Oper} {op : Oper} {a : Act} {w : World} {Q : Exit → Act → World → Prop}
theorem wcopy {x : Option Addr} {n cap b : Nat} {sx : Nat → ByteArray} (ho : op.op = .call { callee := .builtin .copy, args := #[.tmp 9, .tmp 10], argTypes := #[22, 22] }) (hg : op.guard = none) (hsrc : Src w x n cap sx) (hb : b = w.heap.size) (hd : a.eval (.tmp 9) = .slice (some ⟨b, 0, none⟩) n n) (hs : a.eval (.tmp 10) = .slice x n cap)
    (h : wpList Ybad.prog ops Q rest (a.put op.dst (goInt n)) (w.alloc (.cells (strv sx (List.range n)).toArray 9))) : wpList Ybad.prog ops Q (op :: rest) a (w.alloc (.cells (blank n) 9)) := by
  subst hb
  refine wpList_plain hg fun K hK => ?_
  have hrun := run_copy_all w op.type x n cap sx hsrc
  unfold Oper.wp
  simp [execOp, ho, resolve, invoke, builtin, hd, hs, hrun, Result.andThen]
  exact hK _ _ h
end

theorem eq_nil (w : World) : (binOp .eql 22 (.slice none 0 0) (.slice none 0 0)).run Ybad.prog w = .ok (.bool true) w := by
  have h : ∀ d : Nat, (Op.equalIn (d + 1) 22 (.slice none 0 0) (.slice none 0 0)).run Ybad.prog w = .ok true w := fun d => by
    simp [Op.equalIn, run_underlying Ybad.underlying22]
  simp only [binOp]
  simp [Op.equal, Op.maxDepth, h 9999]
theorem ne_nil (x : Addr) (n c : Nat) (w : World) : (binOp .eql 22 (.slice (some x) n c) (.slice none 0 0)).run Ybad.prog w = .ok (.bool false) w := by
  have h : ∀ d : Nat, (Op.equalIn (d + 1) 22 (.slice (some x) n c) (.slice none 0 0)).run Ybad.prog w = .ok false w := fun d => by
    simp [Op.equalIn, run_underlying Ybad.underlying22]
  simp only [binOp]
  simp [Op.equal, Op.maxDepth, h 9999]

/-- The copy that 'zzs6059aclone' makes. -/
def cloneA (w : World) (a : Option Addr) : Option Addr := a.map fun _ => ⟨w.heap.size, 0, none⟩
def cloneW (w : World) (a : Option Addr) (len : Nat) (sx : Nat → ByteArray) : World := match a with
  | none => w
  | some _ => w.alloc (.cells (strv sx (List.range len)).toArray 9)
theorem cloneW_out (w : World) (a : Option Addr) (len : Nat) (sx : Nat → ByteArray) : Outside [] w (cloneW w a len sx) := by
  unfold cloneW
  split
  · exact Outside.refl _ _
  · exact (Outside.refl _ _).alloc _
theorem clone_src {w : World} {a : Option Addr} {len cap : Nat} {sx : Nat → ByteArray} (h : Src w a len cap sx) : Src (cloneW w a len sx) (cloneA w a) len len sx := by
  refine ⟨fun e => ?_, fun h0 => ?_⟩
  · cases a with
    | none => have := h.nil rfl; omega
    | some x => simp [cloneA] at e
  · cases a with
    | none => have := h.nil rfl; omega
    | some x =>
      refine ⟨w.heap.size, 0, rfl, by simp [cloneW], fun j hj => ?_⟩
      show (w.alloc (.cells (strv sx (List.range len)).toArray 9)).cell? ⟨w.heap.size, 0 + j, none⟩ = _
      rw [cell_of_row _ _ _ _ 9 (0, 0) (heap_alloc_new w _)]
      simp [strv, hj]

set_option maxRecDepth 100000 in
theorem clone_any (a : Option Addr) (len cap : Nat) (sx : Nat → ByteArray) (w : World) (hl : len ≤ 1048576) (hs : Src w a len cap sx) :
    Calls Ybad.prog 4 #[.slice a len cap] w fun e w' => e = .returned (.slice (cloneA w a) len len) ∧ w' = cloneW w a len sx := by
  cases a with
  | none =>
    obtain ⟨rfl, rfl⟩ := hs.nil rfl
    have hen := eq_nil
    go_enter Ybad.func4, Ybad.ntmps4
    go_wp2
    go_ret
    exact ⟨rfl, rfl⟩
  | some x =>
    have hen := ne_nil x len cap
    have hmk := mk_full len hl
    have HS := hide hs
    clear hs
    go_enter Ybad.func4, Ybad.ntmps4
    go_wp2_with ((with_reducible apply wcopy); (case ho => rfl); go_must ((case hg => rfl); (case hsrc => exact HS.out); (case hb => rfl); (case hd => rfl); (case hs => rfl)))
    go_ret
    exact ⟨rfl, rfl⟩

set_option maxRecDepth 100000 in
theorem same_any (a b : Option Addr) (len ca cb : Nat) (sx : Nat → ByteArray) (w : World) (hl : len ≤ 1048576) (ha : Src w a len ca sx) (hb : Src w b len cb sx) (hab : a = none ↔ b = none) :
    Calls Ybad.prog 6 #[.slice a len ca, .slice b len cb] w fun e w' => e = .returned (.bool true) ∧ Outside [] w w' := by
  have loop : ∀ (x y : Addr), a = some x → b = some y → Calls Ybad.prog 6 #[.slice a len ca, .slice b len cb] w fun e w' => e = .returned (.bool true) ∧ Outside [] w w' := by
    rintro x y rfl rfl
    have hen := ne_nil x len ca
    have hen2 := ne_nil y len cb
    have HA := hide ha
    have HB := hide hb
    clear ha hb hab
    go_enter Ybad.func6, Ybad.ntmps6
    go_wp2
    go_loopw [5] (fun iv wx => ∃ m : Nat, m ≤ len ∧ iv = .int .i64 (m : Int) ∧ Outside [] w wx) (fun iv _ => len - (intOf iv).toNat)
    case atStart => exact ⟨0, Nat.zero_le _, rfl, Outside.refl _ _⟩
    case round =>
      obtain ⟨m, hm, rfl, ho⟩ := hrel
      have HO := hide ho
      by_cases hml : m < len
      · obtain ⟨b1, o1, e1, _, c1⟩ := HA.out.at_ (by omega)
        obtain ⟨b2, o2, e2, _, c2⟩ := HB.out.at_ (by omega)
        have k1 := ho.cell (c1 m hml) (by simp)
        have k2 := ho.cell (c2 m hml) (by simp)
        simp only [Option.some.injEq] at e1 e2
        subst e1 e2
        clear c1 c2 ho hen hen2
        generalize sx m = s0 at *
        go_wp2_with fail
        go_quiet (fail)
        go_wp2
        go_roundw
        case rel => exact ⟨m + 1, by omega, by go_num, HO.out.drewN nq⟩
        case measure => simp [intOf]; omega
      · obtain rfl : m = len := by omega
        clear hen hen2
        go_wp2
        go_ret
        exact ⟨rfl, HO.out⟩
  cases a with
  | none =>
    obtain rfl := hab.1 rfl
    obtain ⟨rfl, rfl⟩ := ha.nil rfl
    obtain ⟨_, rfl⟩ := hb.nil rfl
    have hen := eq_nil
    clear loop ha hb hab
    go_enter Ybad.func6, Ybad.ntmps6
    go_wp2
    go_loopw [5] (fun iv wx => iv = .int .i64 0 ∧ wx = w) (fun _ _ => 0)
    case atStart => exact ⟨rfl, rfl⟩
    case round =>
      obtain ⟨rfl, rfl⟩ := hrel
      go_wp2
      go_ret
      exact ⟨rfl, Outside.refl _ _⟩
  | some x =>
    cases b with
    | none => exact absurd (hab.2 rfl) (by simp)
    | some y => exact loop x y rfl rfl

end Go.Proofs.YbulkduloDoor
