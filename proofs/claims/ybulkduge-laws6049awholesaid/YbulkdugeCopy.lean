/-
  copy, clear AND make OVER ROWS OF MESSAGES, AS LAWS FOR THE WALK. Speaks of no program but the messages' type's number in RowM.
-/
import Derived.Test.YbulkdugeList
import Derived.Laws.IdiomCopy
namespace Go.Proofs.Ybulkduge
open Go.RowKit
set_option linter.unusedVariables false

def zeroA : Array Value := #[.int .i64 0, .int .i64 0, .int .i64 0, .nilIface]

theorem zeros_flat (n : Nat) : ((Array.range (n * 4)).map fun i => zeroA[i % zeroA.size]!).toList = flat (List.replicate n zeroM) := by
  apply List.ext_getElem?
  intro i
  by_cases hi : i < n * 4
  · have hq : i / 4 < (List.replicate n zeroM).length := by simp; omega
    obtain ⟨f0, f1, f2, f3⟩ := flat_get (List.replicate n zeroM) (i / 4) hq
    simp only [List.getElem_replicate] at f0 f1 f2 f3
    have hz : zeroA.size = 4 := rfl
    have h4 : i % 4 = 0 ∨ i % 4 = 1 ∨ i % 4 = 2 ∨ i % 4 = 3 := by omega
    simp only [Array.toList_map, List.getElem?_map, Array.toList_range, List.getElem?_range hi, Option.map_some, hz]
    rcases h4 with h | h | h | h
    · rw [h, show i = i / 4 * 4 by omega, f0]; rfl
    · rw [h, show i = i / 4 * 4 + 1 by omega, f1]; rfl
    · rw [h, show i = i / 4 * 4 + 2 by omega, f2]; rfl
    · rw [h, show i = i / 4 * 4 + 3 by omega, f3]; rfl
  · rw [List.getElem?_eq_none (by simp; omega), List.getElem?_eq_none (by rw [flat_length]; simp; omega)]

theorem zeroCells_flat (n : Nat) : (Builtin.zeroCells zeroA n).toList = flat (List.replicate n zeroM) := zeros_flat n
theorem madeCells_flat (n : Nat) : (madeCells zeroA (n * 4)).toList = flat (List.replicate n zeroM) := zeros_flat n

section
variable {P : Program}

theorem run_copyN (w : World) (dT sT ty elem : TypeId) (size g o dLen dCap : Nat) (a : Addr) (sLen sCap : Nat) (cur : Array Value) (t : TypeId) (cs : List Value)
    (hu : P.underlying dT = some (.slice elem)) (hs : (P.info? elem).map (·.size) = some size)
    (hg : w.heap[g]? = some (.cells cur t (0, 0))) (hn : cs.length = Nat.min sLen dLen * size)
    (hsrc : ∀ j v, cs[j]? = some v → w.cell? (a.add j) = some v) (hfit : o + cs.length ≤ cur.size) (h1 : ∀ v ∈ cs, v.oneCell' = true) :
    (Builtin.copy_ #[dT, sT] ty #[.slice (some ⟨g, o, none⟩) dLen dCap, .slice (some a) sLen sCap]).run P w =
      .ok (goInt (Nat.min sLen dLen)) (w.setRow g (cur.toList.take o ++ cs ++ cur.toList.drop (o + cs.length)).toArray) := by
  have hl := run_loadCells_list (P := P) w a cs hsrc
  rw [hn] at hl
  have hst := run_storeCells_at P g o t cs 0 cur w hg (by simpa using hfit) h1
  cases hq : P.info? elem with
  | none => simp [hq] at hs
  | some i =>
    have hi : i.size = size := by simpa [hq] using hs
    simp [Builtin.copy_, run_underlying hu, Builtin.lenOf, Builtin.firstCells, sizeOf, typeInfo, hq, hi, hl, hst]

/-- 'copy(dst, src)' of messages, dst at the head of a row of its own, src wherever its cells lie. -/
theorem wpList_copy_msgs {w : World} {ops : Array Oper} {rest : List Oper} {o : Oper} {a : Act} {Q : Exit → Act → World → Prop} (hgd : o.guard = none) (d s : Operand) (dT sT : TypeId)
    (ho : o.op = .call { callee := .builtin .copy, args := #[d, s], argTypes := #[dT, sT] }) (hu : P.underlying dT = some (.slice 26)) (hsz : (P.info? 26).map (·.size) = some 4)
    (g dLen dCap : Nat) (ad : Addr) (sLen sCap : Nat) (hd : a.eval d = .slice (some ⟨g, 0, none⟩) dLen dCap) (hs : a.eval s = .slice (some ad) sLen sCap)
    (ms src : List Msg) (hg : RowM w g ms) (hn : src.length = Nat.min sLen dLen) (hsrc : ∀ j v, (flat src)[j]? = some v → w.cell? (ad.add j) = some v) (hfit : src.length ≤ ms.length)
    (h : ∀ w', RowM w' g (src ++ ms.drop src.length) → Outside [g] w w' → wpList P ops Q rest (a.put o.dst (goInt (Nat.min sLen dLen))) w') : wpList P ops Q (o :: rest) a w := by
  refine wpList_plain hgd fun K hK => ?_
  have hrun := run_copyN (P := P) w dT sT o.type 26 4 g 0 dLen dCap ad sLen sCap _ 26 (flat src) hu hsz hg (by rw [flat_length, hn]) hsrc (by simp [flat_length]; omega) (flat_one src)
  unfold Oper.wp
  simp [execOp, ho, resolve, invoke, builtin, hd, hs, hrun, Result.andThen]
  refine hK _ _ (h _ ?_ ((Outside.refl [g] w).setRow g (.inl (by simp)) _))
  unfold RowM
  rw [setRow_heap w g _ _ 26 _ hg, flat_append, ← flat_drop, flat_length]

theorem run_clear_msgs (w : World) (t ty : TypeId) (ht : P.underlying t = some (.slice 26)) (i : TypeInfo) (hi : P.info? 26 = some i) (hz : i.zero = some (.agg zeroA)) (g o n c : Nat) (ms : List Msg) (hg : RowM w g ms) (hn : 0 < n) (ho : o + n = ms.length) :
    (Builtin.clear_ #[t] ty #[.slice (some ⟨g, o * 4, none⟩) n c]).run P w = .ok (.tuple #[]) (w.setRow g (flat (ms.take o ++ List.replicate n zeroM)).toArray) := by
  have hst := run_storeCells_at P g (o * 4) 26 (flat (List.replicate n zeroM)) 0 _ w hg (by simp [flat_length]; omega) (flat_one _)
  have e : ((flat ms).take (o * 4) ++ flat (List.replicate n zeroM) ++ (flat ms).drop (o * 4 + (flat (List.replicate n zeroM)).length)) = flat (ms.take o ++ List.replicate n zeroM) := by
    rw [flat_append, flat_take, List.drop_eq_nil_of_le (by simp [flat_length]; omega), List.append_nil]
  simp only [Nat.add_zero] at hst
  rw [e] at hst
  have hzc : (Builtin.zeroCells (Value.agg zeroA).cells n).toList = flat (List.replicate n zeroM) := zeroCells_flat n
  obtain ⟨m, rfl⟩ : ∃ m, n = m + 1 := ⟨n - 1, by omega⟩
  simp [Builtin.clear_, run_underlying ht, zeroValue, typeInfo, hi, hz, hzc, hst]

/-- 'clear(b[o:])'. -/
theorem wpList_clear_msgs {w : World} {ops : Array Oper} {rest : List Oper} {op : Oper} {a : Act} {Q : Exit → Act → World → Prop} (hgd : op.guard = none) (d : Operand) (dT : TypeId)
    (ho : op.op = .call { callee := .builtin .clear, args := #[d], argTypes := #[dT] }) (hu : P.underlying dT = some (.slice 26)) (i : TypeInfo) (hi : P.info? 26 = some i) (hz : i.zero = some (.agg zeroA))
    (g o n c : Nat) (hd : a.eval d = .slice (some ⟨g, o * 4, none⟩) n c) (ms : List Msg) (hg : RowM w g ms) (hn : 0 < n) (hon : o + n = ms.length)
    (h : ∀ w', RowM w' g (ms.take o ++ List.replicate n zeroM) → Outside [g] w w' → wpList P ops Q rest (a.put op.dst (.tuple #[])) w') : wpList P ops Q (op :: rest) a w := by
  refine wpList_plain hgd fun K hK => ?_
  have hrun := run_clear_msgs (P := P) w dT op.type hu i hi hz g o n c ms hg hn hon
  unfold Oper.wp
  simp [execOp, ho, resolve, invoke, builtin, hd, hrun, Result.andThen]
  refine hK _ _ (h _ ?_ ((Outside.refl [g] w).setRow g (.inl (by simp)) _))
  unfold RowM
  rw [setRow_heap w g _ _ 26 _ hg]

end

theorem rowM_made {w : World} {base g m : Nat} (h : w.ownsRow base 26 4 (.slice (some ⟨g, 0, none⟩) m m) m (madeCells (Value.agg zeroA).cells (m * 4)).toList) : RowM w g (List.replicate m zeroM) := by
  rcases h.2 with ⟨h', _⟩ | ⟨g', cap', cur, h', _, hg, _, _, hs, htake⟩
  · simp at h'
  · simp only [Value.slice.injEq, Option.some.injEq, Addr.mk.injEq, and_true, true_and] at h'
    obtain ⟨rfl, rfl⟩ := h'
    unfold RowM
    rw [hg]
    have e : (madeCells (Value.agg zeroA).cells (m * 4)).toList = flat (List.replicate m zeroM) := madeCells_flat m
    rw [e] at htake
    have : cur = (flat (List.replicate m zeroM)).toArray := by
      rw [List.take_of_length_le (by simp [hs])] at htake
      rw [← htake]
    rw [this]

end Go.Proofs.Ybulkduge
