/-
  THE QUEUE AS THE LAW's FIRST LOOP FILLS IT (law C).
-/
import Derived.Test.YbulkdukmServed
namespace Go.Proofs.Ybulkdukm
open Go.RowKit
set_option linter.unusedVariables false

/-- Whether place j is of list c. -/
def kp (key : Nat → Nat) (c : Nat) : Nat → Bool := fun j => key j == c
/-- Waiter i's block, S blocks lying before the first round. -/
def bk (S i : Nat) : Nat := S + 2 * i + 1
def qrest : List Value := [.int .i64 0, .int .i64 0, .int .i64 0, .int .i64 0, .int .i64 0, .int .i64 0, .slice none 0 0, .int .u64 0, .int .u64 0, .int .u8 0, .slice none 0 0, .int .i64 0]
/-- The x-th cell of the lists. -/
def qx (S : Nat) (key : Nat → Nat) (k x : Nat) : Value := if x % 2 = 0 then pt (bk S) (nx (kp key (x / 2)) 0 k) else pt (bk S) (la (kp key (x / 2)) k)
def qc (S : Nat) (key : Nat → Nat) (k : Nat) : List Value := (List.range 30).map (qx S key k) ++ qrest
def wsc (S n k : Nat) : List Value := (List.range n).map fun i => if i < k then pv (bk S i) else .pointer none
def wtc (i : Nat) (pr nxv : Value) : Array Value := #[.pointer none, .pointer none, .pointer none, .int .u8 0, .pointer none, .int .u64 ((i : Int) + 1), pr, nxv, .chan none, .int .i64 0]

theorem qc_len (S : Nat) (key : Nat → Nat) (k : Nat) : (qc S key k).length = 42 := by simp [qc, qrest]
theorem qc_get {S : Nat} {key : Nat → Nat} {k x : Nat} (h : x < 30) : (qc S key k)[x]? = some (qx S key k x) := by
  unfold qc
  rw [List.getElem?_append_left (by simpa using h), List.getElem?_map, List.getElem?_range h]
  rfl
theorem qc_ge {S : Nat} {key : Nat → Nat} {k x : Nat} (h : ¬ x < 30) : (qc S key k)[x]? = qrest[x - 30]? := by
  unfold qc
  rw [List.getElem?_append_right (by simp; omega)]
  simp
theorem qx_even (S : Nat) (key : Nat → Nat) (k c : Nat) : qx S key k (c * 2) = pt (bk S) (nx (kp key c) 0 k) := by
  unfold qx
  rw [if_pos (by omega), show c * 2 / 2 = c by omega]
theorem qx_odd (S : Nat) (key : Nat → Nat) (k c : Nat) : qx S key k (c * 2 + 1) = pt (bk S) (la (kp key c) k) := by
  unfold qx
  rw [if_neg (by omega), show (c * 2 + 1) / 2 = c by omega]
theorem kp_self (key : Nat → Nat) (k : Nat) : kp key (key k) k = true := by simp [kp]
theorem kp_ne {key : Nat → Nat} {k c : Nat} (h : c ≠ key k) : kp key c k = false := by simp [kp]; omega

theorem qx_other {S : Nat} {key : Nat → Nat} {k x : Nat} (h : x / 2 ≠ key k) : qx S key (k + 1) x = qx S key k x := by
  unfold qx
  rw [nx_grow_no (kp_ne h), la_grow_no (kp_ne h)]
/-- The list was empty. -/
theorem qc_first {S : Nat} {key : Nat → Nat} {k : Nat} (hk : key k < 15) (h : la (kp key (key k)) k = none) : ((qc S key k).set (key k * 2) (pv (bk S k))).set (key k * 2 + 1) (pv (bk S k)) = qc S key (k + 1) := by
  apply List.ext_getElem?
  intro x
  rw [List.getElem?_set, List.getElem?_set]
  by_cases h1 : key k * 2 + 1 = x
  · subst h1
    rw [if_pos rfl, if_pos (by simp [qc_len]; omega), qc_get (by omega), qx_odd, la_grow (kp_self key k)]
    rfl
  · rw [if_neg h1]
    by_cases h2 : key k * 2 = x
    · subst h2
      rw [if_pos rfl, if_pos (by simp [qc_len]; omega), qc_get (by omega), qx_even, nx_grow_none (kp_self key k) (Nat.zero_le _) (first_none.2 h)]
      rfl
    · rw [if_neg h2]
      by_cases h3 : x < 30
      · rw [qc_get h3, qc_get h3, qx_other (by omega)]
      · rw [qc_ge h3, qc_ge h3]
/-- It was not. -/
theorem qc_next {S : Nat} {key : Nat → Nat} {k j : Nat} (hk : key k < 15) (h : la (kp key (key k)) k = some j) : (qc S key k).set (key k * 2 + 1) (pv (bk S k)) = qc S key (k + 1) := by
  apply List.ext_getElem?
  intro x
  rw [List.getElem?_set]
  by_cases h1 : key k * 2 + 1 = x
  · subst h1
    rw [if_pos rfl, if_pos (by simp [qc_len]; omega), qc_get (by omega), qx_odd, la_grow (kp_self key k)]
    rfl
  · rw [if_neg h1]
    by_cases h2 : key k * 2 = x
    · subst h2
      rw [qc_get (by omega), qc_get (by omega), qx_even, qx_even]
      cases hn : nx (kp key (key k)) 0 k with
      | none => rw [first_none.1 hn] at h; cases h
      | some i => rw [nx_grow_some hn]
    · by_cases h3 : x < 30
      · rw [qc_get h3, qc_get h3, qx_other (by omega)]
      · rw [qc_ge h3, qc_ge h3]

theorem wsc_set {S n k : Nat} (h : k < n) : (wsc S n k).set k (pv (bk S k)) = wsc S n (k + 1) := by
  apply List.ext_getElem?
  intro c
  unfold wsc
  rw [List.getElem?_set, List.getElem?_map, List.getElem?_map]
  by_cases hc : k = c
  · subst hc
    simp [h]
  · rw [if_neg hc]
    by_cases h9 : c < n
    · simp only [List.getElem?_range h9, Option.map_some]
      congr 1
      by_cases h1 : c < k
      · rw [if_pos h1, if_pos (by omega)]
      · rw [if_neg h1, if_neg (by omega)]
    · rw [List.getElem?_eq_none (by simp; omega)]
      rfl

/-- Behind k rounds. 'S' blocks lay before the first: the last three are the length, the queue, the waiters' slice. -/
structure Fill (w0 w : World) (S n k : Nat) (key : Nat → Nat) : Prop where
  nb : w.heap[S - 3]? = some (.cells #[.int .i64 (n : Int)] 3 (0, 0))
  q : w.heap[S - 2]? = some (.cells (qc S key k).toArray 60 (0, 0))
  ws : w.heap[S - 1]? = some (.cells (wsc S n k).toArray 46 (0, 0))
  wt : ∀ i, i < k → ∃ pr, w.heap[bk S i]? = some (.cells (wtc i pr (pt (bk S) (nx (kp key (key i)) (i + 1) k))) 99 (0, 0))
  size : w.heap.size = S + 2 * k
  out : Outside [] w0 w

/-- In the round of k: the waiter is made and laid into the slice. -/
structure Mid (w0 w : World) (S n k : Nat) (key : Nat → Nat) : Prop where
  nb : w.heap[S - 3]? = some (.cells #[.int .i64 (n : Int)] 3 (0, 0))
  q : w.heap[S - 2]? = some (.cells (qc S key k).toArray 60 (0, 0))
  ws : w.heap[S - 1]? = some (.cells (wsc S n (k + 1)).toArray 46 (0, 0))
  wt : ∀ i, i < k → ∃ pr, w.heap[bk S i]? = some (.cells (wtc i pr (pt (bk S) (nx (kp key (key i)) (i + 1) k))) 99 (0, 0))
  new : w.heap[bk S k]? = some (.cells (wtc k (.pointer none) (.pointer none)) 99 (0, 0))
  size : w.heap.size = S + 2 * (k + 1)
  out : Outside [] w0 w

theorem Mid.drewN {w0 w : World} {S n k : Nat} {key : Nat → Nat} (h : Mid w0 w S n k key) (m : Nat) : Mid w0 (w.drewN m) S n k key := by
  have e : (w.drewN m).heap = w.heap := by simp
  exact ⟨by rw [e]; exact h.nb, by rw [e]; exact h.q, by rw [e]; exact h.ws, fun i hi => by rw [e]; exact h.wt i hi, by rw [e]; exact h.new, by rw [e]; exact h.size, h.out.drewN m⟩

/-- The round's first half: the item's copy, the waiter, its place in the slice. -/
theorem Fill.mid {w0 w : World} {S n k : Nat} {key : Nat → Nat} (h : Fill w0 w S n k key) (hS : 3 ≤ S) (hS0 : w0.heap.size + 3 = S) (hk : k < n) (o : Obj) :
    Mid w0 (((w.setCell ⟨S - 1, k, none⟩ (pv (bk S k))).alloc o).alloc (.cells (wtc k (.pointer none) (.pointer none)) 99)) S n k key := by
  have hz := h.size
  have ho : Outside [S - 1] w (((w.setCell ⟨S - 1, k, none⟩ (pv (bk S k))).alloc o).alloc (.cells (wtc k (.pointer none) (.pointer none)) 99)) := (((Outside.refl [S - 1] w).setCell (S - 1) k (.inl (by simp)) _).alloc o).alloc _
  have hs : ((w.setCell ⟨S - 1, k, none⟩ (pv (bk S k))).alloc o).heap.size = bk S k := by simp [World.size_alloc, World.setCell, hz, bk]
  refine ⟨ho.obj h.nb (by simp; omega), ho.obj h.q (by simp; omega), ?_, fun i hi => ?_, ?_, ?_, ?_⟩
  · have e := heap_setCell_same w (S - 1) k _ 46 (pv (bk S k)) h.ws
    have e2 := (((Outside.refl [] (w.setCell ⟨S - 1, k, none⟩ (pv (bk S k)))).alloc o).alloc (.cells (wtc k (.pointer none) (.pointer none)) 99)).obj e (by simp)
    rw [e2, ← wsc_set hk]
    simp
  · obtain ⟨pr, hp⟩ := h.wt i hi
    exact ⟨pr, ho.obj hp (by simp [bk]; omega)⟩
  · have e := heap_alloc_new ((w.setCell ⟨S - 1, k, none⟩ (pv (bk S k))).alloc o) (.cells (wtc k (.pointer none) (.pointer none)) 99)
    rw [hs] at e
    exact e
  · simp [World.size_alloc, World.setCell, hz]
    omega
  · exact h.out.then ho (fun x hx => .inr (by simp at hx; omega))

/-- What the second half reads. -/
theorem Mid.reads {w0 w : World} {S n k : Nat} {key : Nat → Nat} (h : Mid w0 w S n k key) (hk : key k < 15) :
    w.cell? ⟨S - 2, key k * 2, none⟩ = some (pt (bk S) (nx (kp key (key k)) 0 k)) ∧ w.cell? ⟨S - 2, key k * 2 + 1, none⟩ = some (pt (bk S) (la (kp key (key k)) k)) ∧ w.frozen? ⟨S - 2, key k * 2, none⟩ = false ∧ w.frozen? ⟨S - 2, key k * 2 + 1, none⟩ = false := by
  refine ⟨?_, ?_, frozen_of_row w _ _ _ 60 h.q, frozen_of_row w _ _ _ 60 h.q⟩
  · rw [cell_of_row w _ _ _ 60 (0, 0) h.q, List.getElem?_toArray, qc_get (by omega), qx_even]
  · rw [cell_of_row w _ _ _ 60 (0, 0) h.q, List.getElem?_toArray, qc_get (by omega), qx_odd]

theorem Mid.first {w0 w : World} {S n k : Nat} {key : Nat → Nat} (h : Mid w0 w S n k key) (hS : 3 ≤ S) (hS0 : w0.heap.size + 3 = S) (hk : key k < 15) (hl : la (kp key (key k)) k = none) :
    Fill w0 ((w.setCell ⟨S - 2, key k * 2, none⟩ (pv (bk S k))).setCell ⟨S - 2, key k * 2 + 1, none⟩ (pv (bk S k))) S n (k + 1) key := by
  have ho : Outside [S - 2] w ((w.setCell ⟨S - 2, key k * 2, none⟩ (pv (bk S k))).setCell ⟨S - 2, key k * 2 + 1, none⟩ (pv (bk S k))) := ((Outside.refl [S - 2] w).setCell (S - 2) _ (.inl (by simp)) _).setCell (S - 2) _ (.inl (by simp)) _
  refine ⟨ho.obj h.nb (by simp; omega), ?_, ho.obj h.ws (by simp; omega), fun i hi => ?_, by simpa [World.setCell] using h.size, h.out.then ho (fun x hx => .inr (by simp at hx; omega))⟩
  · rw [heap_setCell_same _ (S - 2) (key k * 2 + 1) _ 60 _ (heap_setCell_same w (S - 2) (key k * 2) _ 60 _ h.q), ← qc_first hk hl]
    simp
  · by_cases hik : i = k
    · subst hik
      refine ⟨.pointer none, ?_⟩
      rw [nx_isNone (fun j h1 h2 => by omega)]
      exact ho.obj h.new (by simp [bk]; omega)
    · obtain ⟨pr, hp⟩ := h.wt i (by omega)
      refine ⟨pr, ?_⟩
      have hne : key i ≠ key k := by
        intro e
        have := la_none hl i (by omega)
        rw [← e, kp_self] at this
        cases this
      rw [nx_grow_no (kp_ne hne)]
      exact ho.obj hp (by simp [bk]; omega)

theorem wtc_set7 (i : Nat) (pr nxv v : Value) : (wtc i pr nxv).setIfInBounds 7 v = wtc i pr v := rfl
theorem wtc_set6 (i : Nat) (pr nxv v : Value) : (wtc i pr nxv).setIfInBounds 6 v = wtc i v nxv := rfl

theorem Mid.next {w0 w : World} {S n k j : Nat} {key : Nat → Nat} (h : Mid w0 w S n k key) (hS : 3 ≤ S) (hS0 : w0.heap.size + 3 = S) (hk : key k < 15) (hl : la (kp key (key k)) k = some j) :
    Fill w0 (((w.setCell ⟨bk S j, 7, none⟩ (pv (bk S k))).setCell ⟨bk S k, 6, none⟩ (pv (bk S j))).setCell ⟨S - 2, key k * 2 + 1, none⟩ (pv (bk S k))) S n (k + 1) key := by
  obtain ⟨hj, hp, hlast⟩ := la_some hl
  have hkj : key j = key k := by simpa [kp] using hp
  have ho : Outside [S - 2, bk S j, bk S k] w (((w.setCell ⟨bk S j, 7, none⟩ (pv (bk S k))).setCell ⟨bk S k, 6, none⟩ (pv (bk S j))).setCell ⟨S - 2, key k * 2 + 1, none⟩ (pv (bk S k))) := (((Outside.refl _ w).setCell (bk S j) _ (.inl (by simp)) _).setCell (bk S k) _ (.inl (by simp)) _).setCell (S - 2) _ (.inl (by simp)) _
  obtain ⟨pj, hpj⟩ := h.wt j hj
  have hjk : bk S j ≠ bk S k := by simp [bk]; omega
  refine ⟨ho.obj h.nb (by simp [bk]; omega), ?_, ho.obj h.ws (by simp [bk]; omega), fun i hi => ?_, by simpa [World.setCell] using h.size, h.out.then ho (fun x hx => .inr (by simp [bk] at hx; omega))⟩
  · have o2 : Outside [bk S j, bk S k] w ((w.setCell ⟨bk S j, 7, none⟩ (pv (bk S k))).setCell ⟨bk S k, 6, none⟩ (pv (bk S j))) := ((Outside.refl _ w).setCell (bk S j) _ (.inl (by simp)) _).setCell (bk S k) _ (.inl (by simp)) _
    rw [heap_setCell_same _ (S - 2) (key k * 2 + 1) _ 60 _ (o2.obj h.q (by simp [bk]; omega)), ← qc_next hk hl]
    simp
  · by_cases hik : i = k
    · subst hik
      refine ⟨pv (bk S j), ?_⟩
      rw [nx_isNone (fun j h1 h2 => by omega), Below.heap_setCell _ _ _ _ (by simp [bk]; omega)]
      rw [heap_setCell_same _ (bk S i) 6 _ 99 _ (((Outside.refl [bk S j] w).setCell (bk S j) 7 (.inl (by simp)) (pv (bk S i))).obj h.new (by simp [bk]; omega)), wtc_set6]
      rfl
    · by_cases hij : i = j
      · subst hij
        refine ⟨pj, ?_⟩
        have e1 : nx (kp key (key i)) (i + 1) (k + 1) = some k := by
          rw [hkj]
          exact nx_grow_none (kp_self key k) (by omega) ((la_nx hp hj).2 hl)
        rw [e1, Below.heap_setCell _ _ _ _ (by simp [bk]; omega), Below.heap_setCell _ _ _ _ (by simp [bk]; omega), heap_setCell_same w (bk S i) 7 _ 99 _ hpj, wtc_set7]
        rfl
      · obtain ⟨pr, hpi⟩ := h.wt i (by omega)
        refine ⟨pr, ?_⟩
        have e1 : nx (kp key (key i)) (i + 1) (k + 1) = nx (kp key (key i)) (i + 1) k := by
          by_cases hne : key i = key k
          · cases hn : nx (kp key (key i)) (i + 1) k with
            | some x => exact nx_grow_some hn
            | none =>
              have := (la_nx (kp_self key i) (by omega)).1 hn
              rw [hne, hl] at this
              cases this
              exact absurd rfl hij
          · exact nx_grow_no (kp_ne hne)
        rw [e1]
        exact ho.obj hpi (by simp [bk]; omega)

/-- The two groups, when all is filled. -/
theorem Fill.grp1 {w0 w : World} {S n : Nat} {key : Nat → Nat} (h : Fill w0 w S n n key) : Grp w (S - 2) 0 9 n (bk S) (fun c j => key j == c) := by
  have hc : ∀ x, x < 30 → w.cell? ⟨S - 2, x, none⟩ = some (qx S key n x) := fun x hx => by
    rw [cell_of_row w _ _ _ 60 (0, 0) h.q, List.getElem?_toArray, qc_get hx]
  refine ⟨fun c hc' => ?_, fun c hc' => ⟨la (kp key c) n, ?_⟩, fun c j _ hj hp => ?_, fun c j _ hj hp => ?_⟩
  · rw [Nat.zero_add, hc _ (by omega), qx_even]
    rfl
  · rw [Nat.zero_add, hc _ (by omega), qx_odd]
  · obtain ⟨pr, hp⟩ := h.wt j hj
    rw [cell_of_row w _ _ _ 99 (0, 0) hp]
    rfl
  · obtain ⟨pr, hp'⟩ := h.wt j hj
    rw [cell_of_row w _ _ _ 99 (0, 0) hp']
    have e : key j = c := by simpa using hp
    rw [e]
    rfl
theorem Fill.grp2 {w0 w : World} {S n : Nat} {key : Nat → Nat} (h : Fill w0 w S n n key) : Grp w (S - 2) 18 6 n (bk S) (fun c j => key j == 9 + c) := by
  have hc : ∀ x, x < 30 → w.cell? ⟨S - 2, x, none⟩ = some (qx S key n x) := fun x hx => by
    rw [cell_of_row w _ _ _ 60 (0, 0) h.q, List.getElem?_toArray, qc_get hx]
  refine ⟨fun c hc' => ?_, fun c hc' => ⟨la (kp key (9 + c)) n, ?_⟩, fun c j _ hj hp => ?_, fun c j _ hj hp => ?_⟩
  · rw [hc _ (by omega), show 18 + c * 2 = (9 + c) * 2 by omega, qx_even]
    rfl
  · rw [hc _ (by omega), show 18 + c * 2 + 1 = (9 + c) * 2 + 1 by omega, qx_odd]
  · obtain ⟨pr, hp⟩ := h.wt j hj
    rw [cell_of_row w _ _ _ 99 (0, 0) hp]
    rfl
  · obtain ⟨pr, hp'⟩ := h.wt j hj
    rw [cell_of_row w _ _ _ 99 (0, 0) hp']
    have e : key j = 9 + c := by simpa using hp
    rw [e]
    rfl

end Go.Proofs.Ybulkdukm
