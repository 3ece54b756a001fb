/-
  A SLICE OF THE CALL's OWN, WHEREVER IN ITS ROW IT BEGINS (it is cut at its front and at its end, appended to, written); a world that has turned inside some blocks alone. Speaks of no program.
-/
import Derived.WalkKit
import Derived.BigQuiet
import Derived.ArgAppend
import Derived.Laws.CopyRow
namespace Go.Proofs.Ybulkdukm
open Go.RowKit
set_option linter.unusedVariables false

theorem hide {p : Prop} (h : p) : Hid p := h
theorem unhide {p : Prop} (h : Hid p) : p := h

/-- Of what lay in w only the blocks of S may have turned. -/
structure Outside (S : List Nat) (w w' : World) : Prop where
  os : w'.os = w.os
  tape : w'.tape = w.tape
  output : w'.output = w.output
  size : w.heap.size ≤ w'.heap.size
  block : ∀ k, k < w.heap.size → k ∉ S → w'.heap[k]? = w.heap[k]?

theorem Outside.refl (S : List Nat) (w : World) : Outside S w w := ⟨rfl, rfl, rfl, Nat.le_refl _, fun _ _ _ => rfl⟩
theorem Outside.trans {S : List Nat} {a b c : World} (h : Outside S a b) (k : Outside S b c) : Outside S a c :=
  ⟨k.os.trans h.os, k.tape.trans h.tape, k.output.trans h.output, Nat.le_trans h.size k.size, fun i hi hn => (k.block i (Nat.lt_of_lt_of_le hi h.size) hn).trans (h.block i hi hn)⟩
/-- What turned behind the first step may be new: it lay in no world before. -/
theorem Outside.then {S T : List Nat} {a b c : World} (h : Outside S a b) (k : Outside T b c) (hT : ∀ x ∈ T, x ∈ S ∨ a.heap.size ≤ x) : Outside S a c :=
  ⟨k.os.trans h.os, k.tape.trans h.tape, k.output.trans h.output, Nat.le_trans h.size k.size, fun i hi hn => (k.block i (Nat.lt_of_lt_of_le hi h.size) (fun hx => by rcases hT i hx with h1 | h1; exact hn h1; omega)).trans (h.block i hi hn)⟩
theorem Outside.mono {S T : List Nat} {a b : World} (h : Outside S a b) (hT : ∀ x ∈ S, x ∈ T) : Outside T a b :=
  ⟨h.os, h.tape, h.output, h.size, fun i hi hn => h.block i hi (fun hx => hn (hT i hx))⟩
theorem Outside.drew {S : List Nat} {a b : World} (h : Outside S a b) : Outside S a b.drew := ⟨h.os, h.tape, h.output, h.size, h.block⟩
theorem Outside.drewN {S : List Nat} {a b : World} (h : Outside S a b) (n : Nat) : Outside S a (b.drewN n) := by
  induction n with
  | zero => exact h
  | succ n ih => exact ih.drew
theorem Outside.alloc {S : List Nat} {a b : World} (h : Outside S a b) (o : Obj) : Outside S a (b.alloc o) :=
  h.trans ⟨rfl, rfl, rfl, by simp, fun k hk _ => Below.heap_alloc b o k hk⟩
theorem Outside.setCell {S : List Nat} {a b : World} (h : Outside S a b) (g i : Nat) (hg : g ∈ S ∨ a.heap.size ≤ g) (u : Value) : Outside S a (b.setCell ⟨g, i, none⟩ u) := by
  refine ⟨h.os, h.tape, h.output, by simpa [World.setCell] using h.size, fun k hk hn => ?_⟩
  rw [Below.heap_setCell b _ u k (fun e => ?_)]
  · exact h.block k hk hn
  · simp only at e
    subst e
    rcases hg with h1 | h1
    · exact hn h1
    · omega
theorem Outside.setRow {S : List Nat} {a b : World} (h : Outside S a b) (g : Nat) (hg : g ∈ S ∨ a.heap.size ≤ g) (c : Array Value) : Outside S a (b.setRow g c) := by
  refine ⟨h.os, h.tape, h.output, by simpa [World.setRow] using h.size, fun k hk hn => ?_⟩
  rw [setRow_other b g k c (fun e => ?_)]
  · exact h.block k hk hn
  · subst e
    rcases hg with h1 | h1
    · exact hn h1
    · omega
theorem Outside.of_grown {a b : World} {row : Option Nat} (h : a.grownBy b row) {S : List Nat} (hr : ∀ k, row = some k → k ∈ S) : Outside S a b :=
  ⟨h.os, h.tape, h.output, h.size, fun k hk hn => h.block k hk (fun e => hn (hr k e.symm))⟩
theorem Outside.below {S : List Nat} {w a b : World} {B : Nat} (h : Outside S a b) (hb : Below B w a) (hB : B ≤ a.heap.size) (hS : ∀ x ∈ S, B ≤ x) : Below B w b :=
  hb.trans ⟨h.os, h.tape, h.output, h.size, fun k hk => h.block k (by omega) (fun hx => by have := hS k hx; omega)⟩
theorem Outside.cell {S : List Nat} {a b : World} (h : Outside S a b) {p : Addr} {v : Value} (hp : a.cell? p = some v) (hn : p.block ∉ S) : b.cell? p = some v :=
  (World.cell?_of_block (h.block p.block (World.block_lt_of_cell? a p hp) hn)).trans hp
theorem block_lt {w : World} {b : Nat} {o : Obj} (h : w.heap[b]? = some o) : b < w.heap.size := lt_of_block h
theorem Outside.obj {S : List Nat} {a b : World} (h : Outside S a b) {g : Nat} {o : Obj} (hp : a.heap[g]? = some o) (hn : g ∉ S) : b.heap[g]? = some o :=
  (h.block g (lt_of_block hp) hn).trans hp

/-- The block that a slice owns: none where it has no room at all. -/
def ownB (ao : Option Addr) (cap : Nat) : List Nat := if cap = 0 then [] else ao.toList.map Addr.block

/-- The slice (ao, n, cap) holds the cells xs, 'size' an element, in a row of element type e that is not frozen; the row ends where the slice's room ends. -/
def Slc (w : World) (e : TypeId) (size : Nat) (ao : Option Addr) (n cap : Nat) (xs : List Value) : Prop :=
  xs.length = n * size ∧ n ≤ cap ∧ cap ≤ maxLen ∧
  (cap = 0 ∨ ∃ g off cur, ao = some ⟨g, off, none⟩ ∧ w.heap[g]? = some (.cells cur e (0, 0)) ∧ cur.size = off + cap * size ∧ (cur.toList.drop off).take (n * size) = xs)

section
variable {w w' : World} {e : TypeId} {size : Nat} {ao : Option Addr} {n cap : Nat} {xs : List Value}

theorem Slc.nil (w : World) (e : TypeId) (size : Nat) (ao : Option Addr) : Slc w e size ao 0 0 [] := ⟨by simp, Nat.le_refl _, Nat.zero_le _, .inl rfl⟩

theorem Slc.of_block (h : Slc w e size ao n cap xs) (hb : ∀ g ∈ ownB ao cap, w'.heap[g]? = w.heap[g]?) : Slc w' e size ao n cap xs := by
  obtain ⟨h1, h2, h3, h4⟩ := h
  refine ⟨h1, h2, h3, ?_⟩
  rcases h4 with h4 | ⟨g, off, cur, rfl, hg, r⟩
  · exact .inl h4
  · by_cases hc : cap = 0
    · exact .inl hc
    · exact .inr ⟨g, off, cur, rfl, by rw [hb g (by simp [ownB, hc])]; exact hg, r⟩

theorem Slc.lt (h : Slc w e size ao n cap xs) : ∀ g ∈ ownB ao cap, g < w.heap.size := by
  obtain ⟨h1, h2, h3, h4⟩ := h
  intro g hg
  rcases h4 with h4 | ⟨g', off, cur, rfl, hg', r⟩
  · simp [ownB, h4] at hg
  · simp only [ownB] at hg
    split at hg
    · simp at hg
    · simp at hg; subst hg; exact lt_of_block hg'

theorem Slc.outside {S : List Nat} (h : Slc w e size ao n cap xs) (ho : Outside S w w') (hn : ∀ g ∈ ownB ao cap, g ∉ S) : Slc w' e size ao n cap xs :=
  h.of_block fun g hg => ho.block g (h.lt g hg) (hn g hg)

/-- Where it has room its address is known. -/
theorem Slc.at_ (h : Slc w e size ao n cap xs) (hc : 0 < cap) : ∃ g off cur, ao = some ⟨g, off, none⟩ ∧ w.heap[g]? = some (.cells cur e (0, 0)) ∧ cur.size = off + cap * size ∧ (cur.toList.drop off).take (n * size) = xs := by
  rcases h.2.2.2 with h4 | h4
  · omega
  · exact h4

theorem Slc.made (w : World) (e : TypeId) (size : Nat) (cs : Array Value) (n cap : Nat) (hn : n ≤ cap) (hm : cap ≤ maxLen) (hs : cs.size = cap * size) : Slc (w.alloc (.cells cs e)) e size (some ⟨w.heap.size, 0, none⟩) n cap (cs.toList.take (n * size)) := by
  refine ⟨?_, hn, hm, .inr ⟨w.heap.size, 0, cs, rfl, heap_alloc_new w _, by simp [hs], by simp⟩⟩
  rw [List.length_take, Array.length_toList, hs]
  exact Nat.min_eq_left (Nat.mul_le_mul_right _ hn)

theorem Slc.of_owns {base g : Nat} (h : w.ownsRow base e size (.slice (some ⟨g, 0, none⟩) n cap) n xs) : Slc w e size (some ⟨g, 0, none⟩) n cap xs := by
  obtain ⟨h1, h2⟩ := h
  rcases h2 with ⟨h', _⟩ | ⟨g', cap', cur, h', hb, hg, hnc, hcm, hcs, ht⟩
  · simp at h'
  · simp only [Value.slice.injEq, Option.some.injEq, Addr.mk.injEq, and_true, true_and] at h'
    obtain ⟨rfl, rfl⟩ := h'
    exact ⟨h1, hnc, hcm, .inr ⟨g, 0, cur, rfl, hg, by simpa using hcs, by simpa using ht⟩⟩

end

section
variable {w : World} {e : TypeId} {size : Nat} {g off n cap : Nat} {xs : List Value}

theorem Slc.cell (h : Slc w e size (some ⟨g, off, none⟩) n cap xs) (hc : 0 < cap) (j : Nat) (hj : j < n * size) : w.cell? ⟨g, off + j, none⟩ = xs[j]? := by
  obtain ⟨g', off', cur, he, hg, hs, ht⟩ := h.at_ hc
  simp only [Option.some.injEq, Addr.mk.injEq, and_true] at he
  obtain ⟨rfl, rfl⟩ := he
  rw [cell_of_row w g (off + j) cur e (0, 0) hg, ← ht, List.getElem?_take, if_pos hj, List.getElem?_drop]
  simp

theorem Slc.frozen (h : Slc w e size (some ⟨g, off, none⟩) n cap xs) (hc : 0 < cap) (j : Nat) : w.frozen? ⟨g, j, none⟩ = false := by
  obtain ⟨g', off', cur, he, hg, hs, ht⟩ := h.at_ hc
  simp only [Option.some.injEq, Addr.mk.injEq, and_true] at he
  obtain ⟨rfl, rfl⟩ := he
  exact frozen_of_row w g j cur e hg

/-- One cell written. -/
theorem Slc.set (h : Slc w e size (some ⟨g, off, none⟩) n cap xs) (hc : 0 < cap) (j : Nat) (hj : j < n * size) (u : Value) : Slc (w.setCell ⟨g, off + j, none⟩ u) e size (some ⟨g, off, none⟩) n cap (xs.set j u) := by
  obtain ⟨g', off', cur, he, hg, hs, ht⟩ := h.at_ hc
  simp only [Option.some.injEq, Addr.mk.injEq, and_true] at he
  obtain ⟨rfl, rfl⟩ := he
  refine ⟨by simpa using h.1, h.2.1, h.2.2.1, .inr ⟨g, off, cur.setIfInBounds (off + j) u, rfl, heap_setCell_same w g (off + j) cur e u hg, by simpa using hs, ?_⟩⟩
  rw [Array.toList_setIfInBounds, ← ht, List.drop_set, if_neg (by omega), List.take_set]
  congr 1
  omega

/-- Cut at the end. -/
theorem Slc.front (h : Slc w e size (some ⟨g, off, none⟩) n cap xs) (m : Nat) (hm : m ≤ n) : Slc w e size (some ⟨g, off, none⟩) m cap (xs.take (m * size)) := by
  have hmn : m * size ≤ n * size := Nat.mul_le_mul_right _ hm
  obtain ⟨h1, h2, h3, h4⟩ := h
  refine ⟨by rw [List.length_take, h1]; omega, by omega, h3, ?_⟩
  rcases h4 with h4 | ⟨g', off', cur, he, hg, hs, ht⟩
  · exact .inl h4
  · exact .inr ⟨g', off', cur, he, hg, hs, by rw [← ht, List.take_take, Nat.min_eq_left hmn]⟩

/-- The address of a slice that is cut at its front: an equation that the walk does not open. -/
def cutA (g off size cap l : Nat) : Option Addr := if cap = l then some ⟨g, off, none⟩ else some ⟨g, off + l * size, none⟩

/-- Cut at the front. -/
theorem Slc.back (h : Slc w e size (some ⟨g, off, none⟩) n cap xs) (hc : 0 < cap) (l : Nat) (hl : l ≤ n) : Slc w e size (cutA g off size cap l) (n - l) (cap - l) (xs.drop (l * size)) := by
  obtain ⟨g', off', cur, he, hg, hs, ht⟩ := h.at_ hc
  simp only [Option.some.injEq, Addr.mk.injEq, and_true] at he
  obtain ⟨rfl, rfl⟩ := he
  have hnc := h.2.1
  have hcm := h.2.2.1
  have hls : l * size ≤ n * size := Nat.mul_le_mul_right _ hl
  refine ⟨?_, by omega, by omega, ?_⟩
  · rw [List.length_drop, h.1, Nat.sub_mul]
  · by_cases hcl : cap = l
    · exact .inl (by omega)
    · refine .inr ⟨g, off + l * size, cur, by simp [cutA, hcl], hg, ?_, ?_⟩
      · rw [hs, Nat.sub_mul]
        have : l * size ≤ cap * size := Nat.mul_le_mul_right _ (by omega)
        omega
      · rw [← ht, List.drop_take, List.drop_drop, Nat.sub_mul]

theorem ownB_cutA (l : Nat) (hl : l ≤ cap) : ∀ x ∈ ownB (cutA g off size cap l) (cap - l), x = g := by
  intro x hx
  simp only [ownB, cutA] at hx
  split at hx
  · simp at hx
  · split at hx <;> simp at hx <;> exact hx

end

theorem ownB_some {g off : Nat} {s : Option Nat} {cap : Nat} (hc : 0 < cap) : ownB (some ⟨g, off, s⟩) cap = [g] := by simp [ownB]; omega

/-- 'x[l:]' of such a slice. -/
theorem run_cut {P : Program} (t e : TypeId) (size : Nat) (ht : P.underlying t = some (.slice e)) (hz : (P.info? e).map (·.size) = some size) (g off n cap l : Nat) (hl : l ≤ n) (W : World) :
    (Instr.slice t (.slice (some ⟨g, off, none⟩) n cap) (some (.int .i64 (l : Int))) none none).run P W = .ok (.slice (cutA g off size cap l) (n - l) (cap - l)) W := by
  cases hq : P.info? e with
  | none => simp [hq] at hz
  | some i =>
    have hi : i.size = size := by simpa [hq] using hz
    have ea : ∀ k, (⟨g, off, none⟩ : Addr).add k = ⟨g, off + k, none⟩ := by intro k; unfold Addr.add; split <;> simp_all
    simp [Instr.slice, run_underlying ht, Instr.sliceBounds, Instr.sliceBound, asIntOf, sizeOf, typeInfo, hq, hi, cutA, ea]
    split <;> (intro h; omega)

/-- 'append(s, news...)', s such a slice: it is written where it lies, or moves to a new row. -/
theorem wpList_append_cut {P : Program} (w : World) {ops : Array Oper} {rest : List Oper} {o : Oper} {a : Act} {Q : Exit → Act → World → Prop}
    (hg : o.guard = none) (s x : Operand) (t : TypeId) (hop : o.op = Op.call { callee := Callee.builtin Builtin.append, args := #[s, x], argTypes := #[t, t] })
    (e : TypeId) (i : TypeInfo) (z : Value) (size bytes : Nat) (h1 : P.underlying t = some (.slice e)) (h2 : P.info? e = some i) (h3 : i.zero = some z) (h4 : i.size = size) (h5 : i.bytes = bytes) (h6 : z.cells.size = size) (h7 : 0 < size)
    (ao : Option Addr) (n cap : Nat) (xs : List Value) (hs : a.eval s = .slice ao n cap) (hsl : Slc w e size ao n cap xs)
    (ad : Addr) (m c : Nat) (news : List Value) (hx : a.eval x = .slice (some ad) m c) (hn : news.length = m * size) (hc : ∀ j u, news[j]? = some u → w.cell? (ad.add j) = some u) (h1c : ∀ u ∈ news, u.oneCell' = true) (hm : 0 < m)
    (b1 : n + m ≤ maxLen) (b2 : (n + m) * bytes ≤ 140737488355328)
    (hK : ∀ ao' cap' w', Slc w' e size ao' (n + m) cap' (xs ++ news) → Outside (ownB ao cap) w w' → (∀ g ∈ ownB ao' cap', g ∈ ownB ao cap ∨ w.heap.size ≤ g) → wpList P ops Q rest (a.put o.dst (.slice ao' (n + m) cap')) w') :
    wpList P ops Q (o :: rest) a w := by
  have fin : ∀ v' w', w'.ownsRow w.heap.size e size v' (n + m) (xs ++ news) → w.grownBy w' none → wpList P ops Q rest (a.put o.dst v') w' := by
    intro v' w' how hgr
    have how' := how
    obtain ⟨hl, hv⟩ := how
    rcases hv with ⟨_, h0⟩ | ⟨g, cap', cur, rfl, hb, _⟩
    · omega
    · refine hK _ _ w' (Slc.of_owns how') (Outside.of_grown hgr (fun k hk => by cases hk)) (fun x hx => .inr ?_)
      simp only [ownB] at hx
      split at hx
      · simp at hx
      · simp at hx; subst hx; exact hb
  by_cases h0 : cap = 0
  · subst h0
    have hn0 : n = 0 := by have := hsl.2.1; omega
    subst hn0
    have hx0 : xs = [] := by have := hsl.1; simp at this; exact this
    subst hx0
    exact wpList_append_grows w hg s x t hop e i z size bytes h1 h2 h3 h4 h5 h6 h7 ao 0 0 [] hs (fun _ => ⟨rfl, rfl⟩) (by simp) (by simp) ad m c news hx hn hc h1c (by omega) b1 b2 fin
  · obtain ⟨g, off, cur, rfl, hgb, hsz, ht⟩ := hsl.at_ (by omega)
    have hlo := hsl.1
    refine wpList_append_arg w hg s x t hop e i z size bytes h1 h2 h3 h4 h5 h6 h7 g off n cap xs hs hlo ?_ ad m c news hx hn hc h1c ?_ b1 b2 ?_ (fun _ => fin)
    · intro j u hu
      have hj : j < n * size := by
        have := (List.getElem?_eq_some_iff.1 hu).1
        omega
      rw [hsl.cell (by omega) j hj]
      exact hu
    · intro hroom j hj
      have hle : (n + m) * size ≤ cap * size := Nat.mul_le_mul_right _ hroom
      rw [Nat.add_mul] at hle
      have hlt : off + n * size + j < cur.size := by omega
      refine ⟨?_, frozen_of_row w g _ cur e hgb⟩
      rw [cell_of_row w g _ cur e (0, 0) hgb]
      simp [hlt]
    · intro hroom
      have hle : (n + m) * size ≤ cap * size := Nat.mul_le_mul_right _ hroom
      rw [Nat.add_mul] at hle
      have hfit : off + n * size + news.length ≤ cur.size := by omega
      have hrow : ∀ (vs : List Value) (k : Nat) (cur : Array Value) (W : World), W.heap[g]? = some (.cells cur e (0, 0)) → k + vs.length ≤ cur.size →
          (W.setCells g k vs).heap[g]? = some (.cells (cur.toList.take k ++ vs ++ cur.toList.drop (k + vs.length)).toArray e (0, 0)) ∧ Outside [g] W (W.setCells g k vs) := by
        intro vs
        induction vs with
        | nil =>
          intro k cur W hW hk
          refine ⟨?_, Outside.refl _ _⟩
          simpa [World.setCells] using hW
        | cons v vs ih =>
          intro k cur W hW hk
          simp only [List.length_cons] at hk
          have hW1 := heap_setCell_same W g k cur e v hW
          obtain ⟨i1, i2⟩ := ih (k + 1) _ _ hW1 (by simp; omega)
          refine ⟨?_, ?_⟩
          · show ((W.setCell ⟨g, k, none⟩ v).setCells g (k + 1) vs).heap[g]? = _
            rw [i1]
            congr 2
            have es := list_seg_step cur.toList k v vs (by simp; omega)
            simpa [Array.toList_setIfInBounds] using es
          · show Outside [g] W ((W.setCell ⟨g, k, none⟩ v).setCells g (k + 1) vs)
            exact ((Outside.refl _ W).setCell g k (.inl (by simp)) v).trans i2
      obtain ⟨r1, r2⟩ := hrow news (off + n * size) cur w hgb hfit
      refine hK (some ⟨g, off, none⟩) cap _ ⟨?_, hroom, hsl.2.2.1, .inr ⟨g, off, _, rfl, r1, ?_, ?_⟩⟩ (r2.mono (by simp [ownB, h0])) (fun x hx => .inl hx)
      · rw [List.length_append, hlo, hn, Nat.add_mul]
      · simp only [List.size_toArray, List.length_append, List.length_take, List.length_drop, Array.length_toList]
        omega
      · have e1 : cur.toList.take (off + n * size) = cur.toList.take off ++ xs := by
          rw [← ht, List.take_add]
        rw [e1, List.append_assoc, List.append_assoc, List.drop_append_of_le_length (by simp; omega), List.drop_eq_nil_of_le (List.length_take_le _ _), List.nil_append, ← List.append_assoc, List.take_append_of_le_length (by simp [hlo, hn, Nat.add_mul])]
        exact List.take_of_length_le (by simp [hlo, hn, Nat.add_mul])

end Go.Proofs.Ybulkdukm
