/-
  'remove' OF AN UNORDERED LIST (34, 35) (law B).
-/
import Derived.Test.YbulkdukmBAdd
namespace Go.Proofs.Ybulkdukm
open Go.RowKit
set_option linter.unusedVariables false

/-- The list when the one at p leaves it and the last takes its place. -/
def rmv {α : Type} (l : List α) (p : Nat) (d : α) : List α := (l.set p (l.getD (l.length - 1) d)).take (l.length - 1)
theorem rmv_len {α : Type} (l : List α) (p : Nat) (d : α) : (rmv l p d).length = l.length - 1 := by simp [rmv]
theorem rmv_get {α : Type} {l : List α} {p q : Nat} {d : α} (hq : q < l.length - 1) : (rmv l p d)[q]? = if q = p then l[l.length - 1]? else l[q]? := by
  unfold rmv
  rw [List.getElem?_take, if_pos hq, List.getElem?_set]
  by_cases h : p = q
  · subst h
    have h1 : l.length - 1 < l.length := by omega
    have h2 : p < l.length := by omega
    simp [List.getD, h1, h2]
  · rw [if_neg h, if_neg (fun e => h e.symm)]

/-- A list's entries: element, block and offset of its index. -/
abbrev Ent := Nat × Nat × Nat
def ents (es : List Ent) : List Value := es.flatMap fun t => ent t.1 t.2.1 t.2.2
theorem ents_snoc (es : List Ent) (t : Ent) : ents es ++ ent t.1 t.2.1 t.2.2 = ents (es ++ [t]) := by simp [ents]
theorem ents_len (es : List Ent) : (ents es).length = es.length * 2 := by
  induction es with
  | nil => rfl
  | cons t es ih =>
    have : ents (t :: es) = ent t.1 t.2.1 t.2.2 ++ ents es := rfl
    rw [this, List.length_append, ih]
    simp [ent]
    omega
theorem ents_get (es : List Ent) (q : Nat) : (ents es)[q * 2]? = (es[q]?).map (fun t => .pointer (some ⟨t.1, 0, none⟩)) ∧ (ents es)[q * 2 + 1]? = (es[q]?).map (fun t => .pointer (some ⟨t.2.1, t.2.2, none⟩)) := by
  induction es generalizing q with
  | nil => simp [ents]
  | cons t es ih =>
    have e : ents (t :: es) = ent t.1 t.2.1 t.2.2 ++ ents es := rfl
    rw [e]
    match q with
    | 0 => simp [ent]
    | q + 1 =>
      have hl : (ent t.1 t.2.1 t.2.2).length = 2 := rfl
      have := ih q
      rw [List.getElem?_append_right (by omega), List.getElem?_append_right (by omega), hl, show (q + 1) * 2 - 2 = q * 2 by omega, show (q + 1) * 2 + 1 - 2 = q * 2 + 1 by omega]
      simpa using this
theorem list_ext2 {xs ys : List Value} (hl : ∀ q, xs[q * 2]? = ys[q * 2]? ∧ xs[q * 2 + 1]? = ys[q * 2 + 1]?) : xs = ys := by
  apply List.ext_getElem?
  intro i
  have h := hl (i / 2)
  rcases Nat.mod_two_eq_zero_or_one i with h0 | h0
  · rw [show i = i / 2 * 2 by omega]; exact h.1
  · rw [show i = i / 2 * 2 + 1 by omega]; exact h.2

/-- The list's cells behind 'remove'. -/
theorem rm_cells {es : List Ent} {i : Nat} {a b : Value} {t : Ent} (ht : es[es.length - 1]? = some t) (hi : i < es.length - 1) (d : Ent) :
    (((((ents es).set (i * 2) (.pointer (some ⟨t.1, 0, none⟩))).set (i * 2 + 1) (.pointer (some ⟨t.2.1, t.2.2, none⟩))).set ((es.length - 1) * 2) a).set ((es.length - 1) * 2 + 1) b).take ((es.length - 1) * 2) = ents (rmv es i d) := by
  have hel := ents_len es
  apply list_ext2
  intro q
  obtain ⟨r0, r1⟩ := ents_get (rmv es i d) q
  obtain ⟨s0, s1⟩ := ents_get es q
  rw [r0, r1]
  by_cases hq : q < es.length - 1
  · rw [rmv_get hq]
    constructor
    · rw [List.getElem?_take, if_pos (by omega), List.getElem?_set_ne (by omega), List.getElem?_set_ne (by omega), List.getElem?_set_ne (by omega)]
      by_cases hqi : q = i
      · subst hqi
        rw [if_pos rfl, ht, List.getElem?_set_self (by omega)]
        rfl
      · rw [if_neg hqi, List.getElem?_set_ne (by omega)]
        exact s0
    · rw [List.getElem?_take, if_pos (by omega), List.getElem?_set_ne (by omega), List.getElem?_set_ne (by omega)]
      by_cases hqi : q = i
      · subst hqi
        rw [if_pos rfl, ht, List.getElem?_set_self (by simp; omega)]
        rfl
      · rw [if_neg hqi, List.getElem?_set_ne (by omega), List.getElem?_set_ne (by omega)]
        exact s1
  · rw [List.getElem?_take, List.getElem?_take, if_neg (by omega), if_neg (by omega), List.getElem?_eq_none (by rw [rmv_len]; omega)]
    exact ⟨rfl, rfl⟩
theorem rm_cells_last {es : List Ent} {a b : Value} (d : Ent) (h0 : 0 < es.length) :
    (((ents es).set ((es.length - 1) * 2) a).set ((es.length - 1) * 2 + 1) b).take ((es.length - 1) * 2) = ents (rmv es (es.length - 1) d) := by
  have hel := ents_len es
  apply list_ext2
  intro q
  obtain ⟨r0, r1⟩ := ents_get (rmv es (es.length - 1) d) q
  obtain ⟨s0, s1⟩ := ents_get es q
  rw [r0, r1]
  by_cases hq : q < es.length - 1
  · rw [rmv_get hq, if_neg (by omega)]
    constructor
    · rw [List.getElem?_take, if_pos (by omega), List.getElem?_set_ne (by omega), List.getElem?_set_ne (by omega)]
      exact s0
    · rw [List.getElem?_take, if_pos (by omega), List.getElem?_set_ne (by omega), List.getElem?_set_ne (by omega)]
      exact s1
  · rw [List.getElem?_take, List.getElem?_take, if_neg (by omega), if_neg (by omega), List.getElem?_eq_none (by rw [rmv_len]; omega)]
    exact ⟨rfl, rfl⟩

/-- What 'remove' leaves. -/
structure Removed (e : TypeId) (w w' : World) (S : List Nat) (L o : Nat) (cL : Array Value) (tL : TypeId) (g off cap : Nat) (es : List Ent) (d : Ent) (i : Nat) : Prop where
  out : Outside S w w'
  list : w'.heap[L]? = some (.cells (cL.setIfInBounds o (.slice (some ⟨g, off, none⟩) (es.length - 1) cap)) tL (0, 0))
  slc : Slc w' e 2 (some ⟨g, off, none⟩) (es.length - 1) cap (ents (rmv es i d))

theorem slc_drew {w : World} {e : TypeId} {size : Nat} {ao : Option Addr} {n cap : Nat} {xs : List Value} (h : Slc w e size ao n cap xs) (m : Nat) : Slc (w.drewN m) e size ao n cap xs :=
  h.outside (S := []) ((Outside.refl [] w).drewN m) (by simp)
theorem removed_last {e : TypeId} {w : World} {L o : Nat} {cL : Array Value} {tL : TypeId} {g off cap : Nat} {es : List Ent} (d : Ent) (hL : w.heap[L]? = some (.cells cL tL (0, 0))) (hLo : L ≠ g) (hs : Slc w e 2 (some ⟨g, off, none⟩) es.length cap (ents es)) (hcap : 0 < cap) (h0 : 0 < es.length) :
    ∀ m, Removed e w ((((w.drewN m).setCell ⟨g, off + (es.length - 1) * 2, none⟩ (.pointer none)).setCell ⟨g, off + (es.length - 1) * 2 + 1, none⟩ (.pointer none)).setCell ⟨L, o, none⟩ (.slice (some ⟨g, off, none⟩) (es.length - 1) cap)) [L, g] L o cL tL g off cap es d (es.length - 1) := by
  intro m
  have ho : Outside [L, g] w (((w.drewN m).setCell ⟨g, off + (es.length - 1) * 2, none⟩ (.pointer none)).setCell ⟨g, off + (es.length - 1) * 2 + 1, none⟩ (.pointer none)) := (((Outside.refl [L, g] w).drewN m).setCell g _ (.inl (by simp)) _).setCell g _ (.inl (by simp)) _
  have hog : Outside [g] w (((w.drewN m).setCell ⟨g, off + (es.length - 1) * 2, none⟩ (.pointer none)).setCell ⟨g, off + (es.length - 1) * 2 + 1, none⟩ (.pointer none)) := (((Outside.refl [g] w).drewN m).setCell g _ (.inl (by simp)) _).setCell g _ (.inl (by simp)) _
  have s1 := (slc_drew hs m).set hcap ((es.length - 1) * 2) (by omega) (.pointer none)
  have s2 := s1.set hcap ((es.length - 1) * 2 + 1) (by omega) (.pointer none)
  have s3 := s2.front (es.length - 1) (by omega)
  rw [← Nat.add_assoc, rm_cells_last d h0] at s3
  exact ⟨ho.setCell L o (.inl (by simp)) _, heap_setCell_same _ L o cL tL _ (hog.obj hL (by simpa using hLo)), s3.outside (S := [L]) ((Outside.refl _ _).setCell L o (.inl (by simp)) _) (fun x hx => by rw [ownB_some hcap] at hx; simp at hx ⊢; rw [hx]; exact fun e => hLo e.symm)⟩

/-- The first half: the moved entry's index, its entry at i. -/
theorem mid1 {e : TypeId} {w : World} {L : Nat} {cL c2 : Array Value} {tL t2 : TypeId} {g off cap i : Nat} {es : List Ent} {t : Ent} (ob : Obj) (hL : w.heap[L]? = some (.cells cL tL (0, 0))) (h2 : w.heap[t.2.1]? = some (.cells c2 t2 (0, 0))) (hLo : L ≠ g) (h2o : t.2.1 ≠ g) (hL2 : L ≠ t.2.1) (hs : Slc w e 2 (some ⟨g, off, none⟩) es.length cap (ents es)) (hcap : 0 < cap) (hi : i < es.length - 1) :
    ∃ W4, W4 = ((((w.setCell ⟨t.2.1, t.2.2, none⟩ (.int .i64 (i : Int))).setCell ⟨g, off + i * 2, none⟩ (.pointer (some ⟨t.1, 0, none⟩))).setCell ⟨g, off + i * 2 + 1, none⟩ (.pointer (some ⟨t.2.1, t.2.2, none⟩))).alloc ob).drew ∧ W4.heap[L]? = some (.cells cL tL (0, 0)) ∧ W4.heap[t.2.1]? = some (.cells (c2.setIfInBounds t.2.2 (.int .i64 (i : Int))) t2 (0, 0)) ∧
      Slc W4 e 2 (some ⟨g, off, none⟩) es.length cap (((ents es).set (i * 2) (.pointer (some ⟨t.1, 0, none⟩))).set (i * 2 + 1) (.pointer (some ⟨t.2.1, t.2.2, none⟩))) ∧ Outside [L, g, t.2.1] w W4 := by
  have o1 : Outside [t.2.1] w (w.setCell ⟨t.2.1, t.2.2, none⟩ (.int .i64 (i : Int))) := (Outside.refl _ w).setCell _ _ (.inl (by simp)) _
  have s0 := hs.outside o1 (fun x hx => by rw [ownB_some hcap] at hx; simp at hx ⊢; rw [hx]; exact fun e => h2o e.symm)
  have s1 := s0.set hcap (i * 2) (by omega) (.pointer (some ⟨t.1, 0, none⟩))
  have s2 := s1.set hcap (i * 2 + 1) (by omega) (.pointer (some ⟨t.2.1, t.2.2, none⟩))
  rw [← Nat.add_assoc] at s2
  have o3 : Outside [] (((w.setCell ⟨t.2.1, t.2.2, none⟩ (.int .i64 (i : Int))).setCell ⟨g, off + i * 2, none⟩ (.pointer (some ⟨t.1, 0, none⟩))).setCell ⟨g, off + i * 2 + 1, none⟩ (.pointer (some ⟨t.2.1, t.2.2, none⟩))) ((((w.setCell ⟨t.2.1, t.2.2, none⟩ (.int .i64 (i : Int))).setCell ⟨g, off + i * 2, none⟩ (.pointer (some ⟨t.1, 0, none⟩))).setCell ⟨g, off + i * 2 + 1, none⟩ (.pointer (some ⟨t.2.1, t.2.2, none⟩))).alloc ob).drew := ((Outside.refl [] _).alloc ob).drew
  refine ⟨_, rfl, o3.obj ?_ (by simp), o3.obj ?_ (by simp), s2.outside o3 (by simp), ?_⟩
  · have o2 : Outside [t.2.1, g] w (((w.setCell ⟨t.2.1, t.2.2, none⟩ (.int .i64 (i : Int))).setCell ⟨g, off + i * 2, none⟩ (.pointer (some ⟨t.1, 0, none⟩))).setCell ⟨g, off + i * 2 + 1, none⟩ (.pointer (some ⟨t.2.1, t.2.2, none⟩))) := (((Outside.refl _ w).setCell _ _ (.inl (by simp)) _).setCell _ _ (.inl (by simp)) _).setCell _ _ (.inl (by simp)) _
    exact o2.obj hL (by simp; exact ⟨hL2, hLo⟩)
  · have o2 : Outside [g] (w.setCell ⟨t.2.1, t.2.2, none⟩ (.int .i64 (i : Int))) (((w.setCell ⟨t.2.1, t.2.2, none⟩ (.int .i64 (i : Int))).setCell ⟨g, off + i * 2, none⟩ (.pointer (some ⟨t.1, 0, none⟩))).setCell ⟨g, off + i * 2 + 1, none⟩ (.pointer (some ⟨t.2.1, t.2.2, none⟩))) := ((Outside.refl _ _).setCell _ _ (.inl (by simp)) _).setCell _ _ (.inl (by simp)) _
    exact o2.obj (heap_setCell_same w _ _ c2 t2 _ h2) (by simpa using h2o)
  · have o2 : Outside [L, g, t.2.1] w (((w.setCell ⟨t.2.1, t.2.2, none⟩ (.int .i64 (i : Int))).setCell ⟨g, off + i * 2, none⟩ (.pointer (some ⟨t.1, 0, none⟩))).setCell ⟨g, off + i * 2 + 1, none⟩ (.pointer (some ⟨t.2.1, t.2.2, none⟩))) := (((Outside.refl _ w).setCell _ _ (.inl (by simp)) _).setCell _ _ (.inl (by simp)) _).setCell _ _ (.inl (by simp)) _
    exact o2.then o3 (by simp)
/-- The second: the last entry cleared, the list cut. -/
theorem mid2 {e : TypeId} {w W4 : World} {L o : Nat} {cL c2' : Array Value} {tL t2 : TypeId} {g off cap i : Nat} {es : List Ent} (d : Ent) {t : Ent} (hLo : L ≠ g) (h2o : t.2.1 ≠ g) (hL2 : L ≠ t.2.1) (hcap : 0 < cap) (ht : es[es.length - 1]? = some t) (hi : i < es.length - 1)
    (hL : W4.heap[L]? = some (.cells cL tL (0, 0))) (h2 : W4.heap[t.2.1]? = some (.cells c2' t2 (0, 0))) (hs : Slc W4 e 2 (some ⟨g, off, none⟩) es.length cap (((ents es).set (i * 2) (.pointer (some ⟨t.1, 0, none⟩))).set (i * 2 + 1) (.pointer (some ⟨t.2.1, t.2.2, none⟩)))) (ho : Outside [L, g, t.2.1] w W4) :
    Removed e w (((W4.setCell ⟨g, off + (es.length - 1) * 2, none⟩ (.pointer none)).setCell ⟨g, off + (es.length - 1) * 2 + 1, none⟩ (.pointer none)).setCell ⟨L, o, none⟩ (.slice (some ⟨g, off, none⟩) (es.length - 1) cap)) [L, g, t.2.1] L o cL tL g off cap es d i ∧
      (((W4.setCell ⟨g, off + (es.length - 1) * 2, none⟩ (.pointer none)).setCell ⟨g, off + (es.length - 1) * 2 + 1, none⟩ (.pointer none)).setCell ⟨L, o, none⟩ (.slice (some ⟨g, off, none⟩) (es.length - 1) cap)).heap[t.2.1]? = some (.cells c2' t2 (0, 0)) := by
  have og : Outside [g] W4 ((W4.setCell ⟨g, off + (es.length - 1) * 2, none⟩ (.pointer none)).setCell ⟨g, off + (es.length - 1) * 2 + 1, none⟩ (.pointer none)) := ((Outside.refl _ _).setCell _ _ (.inl (by simp)) _).setCell _ _ (.inl (by simp)) _
  have s1 := hs.set hcap ((es.length - 1) * 2) (by omega) (.pointer none)
  have s2 := s1.set hcap ((es.length - 1) * 2 + 1) (by omega) (.pointer none)
  have s3 := s2.front (es.length - 1) (by omega)
  rw [← Nat.add_assoc, rm_cells ht hi d] at s3
  have oL : Outside [L] ((W4.setCell ⟨g, off + (es.length - 1) * 2, none⟩ (.pointer none)).setCell ⟨g, off + (es.length - 1) * 2 + 1, none⟩ (.pointer none)) (((W4.setCell ⟨g, off + (es.length - 1) * 2, none⟩ (.pointer none)).setCell ⟨g, off + (es.length - 1) * 2 + 1, none⟩ (.pointer none)).setCell ⟨L, o, none⟩ (.slice (some ⟨g, off, none⟩) (es.length - 1) cap)) := (Outside.refl _ _).setCell _ _ (.inl (by simp)) _
  refine ⟨⟨(ho.then og (fun x hx => .inl (by simp at hx; simp [hx]))).then oL (fun x hx => .inl (by simp at hx; simp [hx])), heap_setCell_same _ L o cL tL _ (og.obj hL (by simpa using hLo)), s3.outside oL (fun x hx => by rw [ownB_some hcap] at hx; simp at hx ⊢; rw [hx]; exact fun e => hLo e.symm)⟩, ?_⟩
  exact oL.obj (og.obj h2 (by simpa using h2o)) (by simpa using fun e => hL2 e.symm)

theorem run_front56 (g off n cap l : Nat) (hl : l ≤ n) (hn : n ≤ cap) (W : World) : (Instr.slice 56 (.slice (some ⟨g, off, none⟩) n cap) none (some (.int .i64 (l : Int))) none).run Yba.prog W = .ok (.slice (some ⟨g, off, none⟩) l cap) W := by
  have ea : (⟨g, off, none⟩ : Addr).add 0 = ⟨g, off, none⟩ := by simp [Addr.add]
  have hlc : l ≤ cap := by omega
  simp [Instr.slice, run_underlying Yba.underlying56, Instr.sliceBounds, Instr.sliceBound, asIntOf, Yba.sizeOf106, ea, hlc]
theorem run_front75 (g off n cap l : Nat) (hl : l ≤ n) (hn : n ≤ cap) (W : World) : (Instr.slice 75 (.slice (some ⟨g, off, none⟩) n cap) none (some (.int .i64 (l : Int))) none).run Yba.prog W = .ok (.slice (some ⟨g, off, none⟩) l cap) W := by
  have ea : (⟨g, off, none⟩ : Addr).add 0 = ⟨g, off, none⟩ := by simp [Addr.add]
  have hlc : l ≤ cap := by omega
  simp [Instr.slice, run_underlying Yba.underlying75, Instr.sliceBounds, Instr.sliceBound, asIntOf, Yba.sizeOf108, ea, hlc]

set_option maxRecDepth 100000 in
set_option maxHeartbeats 2000000 in
theorem rem_w_last (L o P po cap g off : Nat) (es : List Ent) (d : Ent) (cL cP : Array Value) (tL tP : TypeId) (w : World) (hL : w.heap[L]? = some (.cells cL tL (0, 0))) (hP : w.heap[P]? = some (.cells cP tP (0, 0))) (hc : cL[o]? = some (.slice (some ⟨g, off, none⟩) es.length cap)) (hp : cP[po]? = some (.int .i64 ((es.length - 1 : Nat) : Int)))
    (hs : Slc w 106 2 (some ⟨g, off, none⟩) es.length cap (ents es)) (htL : 106 ≠ tL) (h0 : 0 < es.length) (hn : es.length ≤ 200000) :
    Calls Yba.prog 34 #[.pointer (some ⟨L, o, none⟩), .pointer (some ⟨P, po, none⟩)] w fun e w' => e = .returned (.tuple #[]) ∧ Removed 106 w w' [L, g] L o cL tL g off cap es d (es.length - 1) := by
  have c0 : w.cell? ⟨L, o, none⟩ = some (.slice (some ⟨g, off, none⟩) es.length cap) := by rw [cell_of_row w L o _ tL (0, 0) hL]; exact hc
  have f0 : w.frozen? ⟨L, o, none⟩ = false := frozen_of_row w L o _ tL hL
  have c1 : w.cell? ⟨P, po, none⟩ = some (.int .i64 ((es.length - 1 : Nat) : Int)) := by rw [cell_of_row w P po _ tP (0, 0) hP]; exact hp
  have hcap : 0 < cap := by have := hs.2.1; omega
  have hLo : L ≠ g := by have := hs.not_own' hL htL; rw [ownB_some hcap] at this; simpa using this
  have hgL : g ≠ L := fun e => hLo e.symm
  have hel := ents_len es
  obtain ⟨n, hn1⟩ : ∃ n, es.length = n + 1 := ⟨es.length - 1, by omega⟩
  have e1 := hs.cell hcap (n * 2) (by omega)
  have e2 := hs.cell hcap (n * 2 + 1) (by omega)
  obtain ⟨v1, hv1⟩ : ∃ v, (ents es)[n * 2]? = some v := ⟨(ents es)[n * 2]'(by omega), List.getElem?_eq_getElem (by omega)⟩
  obtain ⟨v2, hv2⟩ : ∃ v, (ents es)[n * 2 + 1]? = some v := ⟨(ents es)[n * 2 + 1]'(by omega), List.getElem?_eq_getElem (by omega)⟩
  rw [hv1] at e1
  rw [hv2] at e2
  have f1 := hs.frozen hcap (off + n * 2)
  have f2 := hs.frozen hcap (off + (n * 2 + 1))
  rw [← Nat.add_assoc] at e2 f2
  have hltg := World.block_lt_of_cell? _ _ e1
  have hltL := lt_of_block hL
  have HF := hide (removed_last (o := o) d hL hLo hs hcap h0)
  have hnn : es.length - 1 = n := by omega
  rw [hnn] at c1
  have HN1 := hide hn1
  have hsl := run_front56 g off (n + 1) cap n (by omega) (by have := hs.2.1; omega)
  clear hL hP hc hp hs hv1 hv2 hel hnn
  rw [hn1] at c0
  have hn' : n + 1 ≤ 200000 := by omega
  have hne : ((n : Int) == (n : Int)) = true := by simp
  clear hn h0 hn1
  go_enter Yba.func34, Yba.ntmps34
  go_wp2_with fail
  go_quiet (fail)
  go_wp2
  go_end0
  refine ⟨rfl, ?_⟩
  have e := HF.out nq
  have hx : es.length - 1 = n := by have := HN1.out; omega
  rw [hx] at e ⊢
  exact e

set_option maxRecDepth 100000 in
set_option maxHeartbeats 2000000 in
theorem rem_w_mid (L o P po cap g off i : Nat) (es : List Ent) (d t : Ent) (cL cP c2 : Array Value) (tL tP t2 : TypeId) (v0 : Int) (w : World) (hL : w.heap[L]? = some (.cells cL tL (0, 0))) (hP : w.heap[P]? = some (.cells cP tP (0, 0))) (h2 : w.heap[t.2.1]? = some (.cells c2 t2 (0, 0))) (hc : cL[o]? = some (.slice (some ⟨g, off, none⟩) es.length cap)) (hp : cP[po]? = some (.int .i64 (i : Int))) (hc2 : c2[t.2.2]? = some (.int .i64 v0))
    (hs : Slc w 106 2 (some ⟨g, off, none⟩) es.length cap (ents es)) (ht : es[es.length - 1]? = some t) (hi : i < es.length - 1) (htL : 106 ≠ tL) (ht2 : 106 ≠ t2) (hL2 : L ≠ t.2.1) (hn : es.length ≤ 200000) :
    Calls Yba.prog 34 #[.pointer (some ⟨L, o, none⟩), .pointer (some ⟨P, po, none⟩)] w fun e w' => e = .returned (.tuple #[]) ∧ Removed 106 w w' [L, g, t.2.1] L o cL tL g off cap es d i ∧ w'.heap[t.2.1]? = some (.cells (c2.setIfInBounds t.2.2 (.int .i64 (i : Int))) t2 (0, 0)) := by
  have c0 : w.cell? ⟨L, o, none⟩ = some (.slice (some ⟨g, off, none⟩) es.length cap) := by rw [cell_of_row w L o _ tL (0, 0) hL]; exact hc
  have f0 : w.frozen? ⟨L, o, none⟩ = false := frozen_of_row w L o _ tL hL
  have c1 : w.cell? ⟨P, po, none⟩ = some (.int .i64 (i : Int)) := by rw [cell_of_row w P po _ tP (0, 0) hP]; exact hp
  have d1 : w.cell? ⟨t.2.1, t.2.2, none⟩ = some (.int .i64 v0) := by rw [cell_of_row w _ _ _ t2 (0, 0) h2]; exact hc2
  have d2 : w.frozen? ⟨t.2.1, t.2.2, none⟩ = false := frozen_of_row w _ _ _ t2 h2
  have hcap : 0 < cap := by have := hs.2.1; omega
  have hLo : L ≠ g := by have := hs.not_own' hL htL; rw [ownB_some hcap] at this; simpa using this
  have h2o : t.2.1 ≠ g := by have := hs.not_own' h2 ht2; rw [ownB_some hcap] at this; simpa using this
  have hgL : g ≠ L := fun e => hLo e.symm
  have hg2 : g ≠ t.2.1 := fun e => h2o e.symm
  have h2L : t.2.1 ≠ L := fun e => hL2 e.symm
  have hel := ents_len es
  obtain ⟨n, hn1⟩ : ∃ n, es.length = n + 1 := ⟨es.length - 1, by omega⟩
  obtain ⟨v1, v2⟩ := ents_get es n
  rw [show es[n]? = some t by rw [← ht]; congr 1; omega] at v1 v2
  have e1 := hs.cell hcap (n * 2) (by omega)
  have e2 := hs.cell hcap (n * 2 + 1) (by omega)
  rw [v1] at e1
  rw [v2] at e2
  have k1 := hs.cell hcap (i * 2) (by omega)
  have k2 := hs.cell hcap (i * 2 + 1) (by omega)
  obtain ⟨u1, hu1⟩ : ∃ v, (ents es)[i * 2]? = some v := ⟨(ents es)[i * 2]'(by omega), List.getElem?_eq_getElem (by omega)⟩
  obtain ⟨u2, hu2⟩ : ∃ v, (ents es)[i * 2 + 1]? = some v := ⟨(ents es)[i * 2 + 1]'(by omega), List.getElem?_eq_getElem (by omega)⟩
  rw [hu1] at k1
  rw [hu2] at k2
  have f1 := hs.frozen hcap (off + n * 2)
  have f2 := hs.frozen hcap (off + (n * 2 + 1))
  have f3 := hs.frozen hcap (off + i * 2)
  have f4 := hs.frozen hcap (off + (i * 2 + 1))
  rw [← Nat.add_assoc] at e2 f2 k2 f4
  simp only [Option.map_some] at e1 e2
  have hltg := World.block_lt_of_cell? _ _ e1
  have hltL := lt_of_block hL
  have hlt2 := lt_of_block h2
  have HPRE : Hid (∀ m, (w.drewN m).heap[L]? = some (.cells cL tL (0, 0)) ∧ (w.drewN m).heap[t.2.1]? = some (.cells c2 t2 (0, 0)) ∧ Slc (w.drewN m) 106 2 (some ⟨g, off, none⟩) es.length cap (ents es) ∧ Outside [] w (w.drewN m)) := fun m => ⟨by simpa using hL, by simpa using h2, slc_drew hs m, (Outside.refl [] w).drewN m⟩
  have HT := hide ht
  have HI := hide hi
  have HN1 := hide hn1
  have hsl := run_front56 g off (n + 1) cap n (by omega) (by have := hs.2.1; omega)
  have hcL := hc
  clear hL hP h2 hc hp hc2 hs hu1 hu2 hel v1 v2 ht
  rw [hn1] at c0
  have hn' : n + 1 ≤ 200000 := by omega
  have hin : i < n := by omega
  have hin1 : i < n + 1 := by omega
  have hne : ((i : Int) == (n : Int)) = false := by rw [beq_eq_false_iff_ne]; omega
  have hne2 : ¬ i * 2 = n * 2 := by omega
  clear hn hi hn1
  have HCL : Hid (some (Value.slice (some ⟨g, off, none⟩) (n + 1) cap) = cL[o]?) := by show _ = _; rw [hcL, HN1.out]
  clear hcL
  obtain ⟨X2, P2, po2⟩ := t
  go_enter Yba.func34, Yba.ntmps34
  go_wp2_with fail
  go_quiet (fail)
  have ec : ∀ a, w.cell? a = (w.drewN nq).cell? a := fun a => by simp
  have ef : ∀ a, w.frozen? a = (w.drewN nq).frozen? a := fun a => by simp
  have ez : w.heap.size = (w.drewN nq).heap.size := by simp
  rw [ec] at c0 c1 d1 e1 e2 k1 k2
  rw [ef] at f0 d2 f1 f2 f3 f4
  rw [ez] at hltg hltL hlt2
  obtain ⟨q1, q2, q3, q4⟩ := HPRE.out nq
  have HQ1 := hide q1
  have HQ2 := hide q2
  have HQ3 := hide q3
  have HQ4 := hide q4
  clear ec ef ez HPRE q1 q2 q3 q4
  generalize w.drewN nq = wq at *
  go_wp2
  go_region
  obtain ⟨W4, hW4, m1, m2, m3, m4⟩ := mid1 (t := (X2, P2, po2)) (i := i) (.cells #[.pointer (some ⟨X2, 0, none⟩), .pointer (some ⟨P2, po2, none⟩)] 106) HQ1.out HQ2.out hLo h2o hL2 HQ3.out hcap HI.out
  rw [← hW4]
  have hnn : es.length - 1 = n := by have := HN1.out; omega
  have x0 : W4.cell? ⟨L, o, none⟩ = some (.slice (some ⟨g, off, none⟩) (n + 1) cap) := by
    rw [cell_of_row W4 L o _ tL (0, 0) m1, ← HCL.out]
  have x1 : W4.frozen? ⟨L, o, none⟩ = false := frozen_of_row W4 L o _ tL m1
  have hel := ents_len es
  have y1 := m3.cell hcap (n * 2) (by omega)
  have y2 := m3.cell hcap (n * 2 + 1) (by omega)
  obtain ⟨u3, hu3⟩ : ∃ v, (((ents es).set (i * 2) (.pointer (some ⟨X2, 0, none⟩))).set (i * 2 + 1) (.pointer (some ⟨P2, po2, none⟩)))[n * 2]? = some v := ⟨_, List.getElem?_eq_getElem (by simp; omega)⟩
  obtain ⟨u4, hu4⟩ : ∃ v, (((ents es).set (i * 2) (.pointer (some ⟨X2, 0, none⟩))).set (i * 2 + 1) (.pointer (some ⟨P2, po2, none⟩)))[n * 2 + 1]? = some v := ⟨_, List.getElem?_eq_getElem (by simp; omega)⟩
  rw [hu3] at y1
  rw [hu4] at y2
  have z1 := m3.frozen hcap (off + n * 2)
  have z2 := m3.frozen hcap (off + (n * 2 + 1))
  rw [← Nat.add_assoc] at y2 z2
  have hl1 := World.block_lt_of_cell? _ _ y1
  have hl2 := lt_of_block m1
  have HFIN := hide (mid2 (o := o) d hLo h2o hL2 hcap HT.out HI.out m1 m2 m3 ((HQ4.out.mono (by simp)).trans m4))
  rw [hnn] at HFIN
  clear hu3 hu4 hel m1 m2 m3 m4 hW4 c0 c1 d1 d2 f0 f1 f2 f3 f4 e1 e2 k1 k2
  go_wp2
  go_end0
  exact ⟨rfl, HFIN.out⟩

set_option maxRecDepth 100000 in
set_option maxHeartbeats 2000000 in
theorem rem_n_last (L o P po cap g off : Nat) (es : List Ent) (d : Ent) (cL cP : Array Value) (tL tP : TypeId) (w : World) (hL : w.heap[L]? = some (.cells cL tL (0, 0))) (hP : w.heap[P]? = some (.cells cP tP (0, 0))) (hc : cL[o]? = some (.slice (some ⟨g, off, none⟩) es.length cap)) (hp : cP[po]? = some (.int .i64 ((es.length - 1 : Nat) : Int)))
    (hs : Slc w 108 2 (some ⟨g, off, none⟩) es.length cap (ents es)) (htL : 108 ≠ tL) (h0 : 0 < es.length) (hn : es.length ≤ 200000) :
    Calls Yba.prog 35 #[.pointer (some ⟨L, o, none⟩), .pointer (some ⟨P, po, none⟩)] w fun e w' => e = .returned (.tuple #[]) ∧ Removed 108 w w' [L, g] L o cL tL g off cap es d (es.length - 1) := by
  have c0 : w.cell? ⟨L, o, none⟩ = some (.slice (some ⟨g, off, none⟩) es.length cap) := by rw [cell_of_row w L o _ tL (0, 0) hL]; exact hc
  have f0 : w.frozen? ⟨L, o, none⟩ = false := frozen_of_row w L o _ tL hL
  have c1 : w.cell? ⟨P, po, none⟩ = some (.int .i64 ((es.length - 1 : Nat) : Int)) := by rw [cell_of_row w P po _ tP (0, 0) hP]; exact hp
  have hcap : 0 < cap := by have := hs.2.1; omega
  have hLo : L ≠ g := by have := hs.not_own' hL htL; rw [ownB_some hcap] at this; simpa using this
  have hgL : g ≠ L := fun e => hLo e.symm
  have hel := ents_len es
  obtain ⟨n, hn1⟩ : ∃ n, es.length = n + 1 := ⟨es.length - 1, by omega⟩
  have e1 := hs.cell hcap (n * 2) (by omega)
  have e2 := hs.cell hcap (n * 2 + 1) (by omega)
  obtain ⟨v1, hv1⟩ : ∃ v, (ents es)[n * 2]? = some v := ⟨(ents es)[n * 2]'(by omega), List.getElem?_eq_getElem (by omega)⟩
  obtain ⟨v2, hv2⟩ : ∃ v, (ents es)[n * 2 + 1]? = some v := ⟨(ents es)[n * 2 + 1]'(by omega), List.getElem?_eq_getElem (by omega)⟩
  rw [hv1] at e1
  rw [hv2] at e2
  have f1 := hs.frozen hcap (off + n * 2)
  have f2 := hs.frozen hcap (off + (n * 2 + 1))
  rw [← Nat.add_assoc] at e2 f2
  have hltg := World.block_lt_of_cell? _ _ e1
  have hltL := lt_of_block hL
  have HF := hide (removed_last (o := o) d hL hLo hs hcap h0)
  have hnn : es.length - 1 = n := by omega
  rw [hnn] at c1
  have HN1 := hide hn1
  have hsl := run_front75 g off (n + 1) cap n (by omega) (by have := hs.2.1; omega)
  clear hL hP hc hp hs hv1 hv2 hel hnn
  rw [hn1] at c0
  have hn' : n + 1 ≤ 200000 := by omega
  have hne : ((n : Int) == (n : Int)) = true := by simp
  clear hn h0 hn1
  go_enter Yba.func35, Yba.ntmps35
  go_wp2_with fail
  go_quiet (fail)
  go_wp2
  go_end0
  refine ⟨rfl, ?_⟩
  have e := HF.out nq
  have hx : es.length - 1 = n := by have := HN1.out; omega
  rw [hx] at e ⊢
  exact e

set_option maxRecDepth 100000 in
set_option maxHeartbeats 2000000 in
theorem rem_n_mid (L o P po cap g off i : Nat) (es : List Ent) (d t : Ent) (cL cP c2 : Array Value) (tL tP t2 : TypeId) (v0 : Int) (w : World) (hL : w.heap[L]? = some (.cells cL tL (0, 0))) (hP : w.heap[P]? = some (.cells cP tP (0, 0))) (h2 : w.heap[t.2.1]? = some (.cells c2 t2 (0, 0))) (hc : cL[o]? = some (.slice (some ⟨g, off, none⟩) es.length cap)) (hp : cP[po]? = some (.int .i64 (i : Int))) (hc2 : c2[t.2.2]? = some (.int .i64 v0))
    (hs : Slc w 108 2 (some ⟨g, off, none⟩) es.length cap (ents es)) (ht : es[es.length - 1]? = some t) (hi : i < es.length - 1) (htL : 108 ≠ tL) (ht2 : 108 ≠ t2) (hL2 : L ≠ t.2.1) (hn : es.length ≤ 200000) :
    Calls Yba.prog 35 #[.pointer (some ⟨L, o, none⟩), .pointer (some ⟨P, po, none⟩)] w fun e w' => e = .returned (.tuple #[]) ∧ Removed 108 w w' [L, g, t.2.1] L o cL tL g off cap es d i ∧ w'.heap[t.2.1]? = some (.cells (c2.setIfInBounds t.2.2 (.int .i64 (i : Int))) t2 (0, 0)) := by
  have c0 : w.cell? ⟨L, o, none⟩ = some (.slice (some ⟨g, off, none⟩) es.length cap) := by rw [cell_of_row w L o _ tL (0, 0) hL]; exact hc
  have f0 : w.frozen? ⟨L, o, none⟩ = false := frozen_of_row w L o _ tL hL
  have c1 : w.cell? ⟨P, po, none⟩ = some (.int .i64 (i : Int)) := by rw [cell_of_row w P po _ tP (0, 0) hP]; exact hp
  have d1 : w.cell? ⟨t.2.1, t.2.2, none⟩ = some (.int .i64 v0) := by rw [cell_of_row w _ _ _ t2 (0, 0) h2]; exact hc2
  have d2 : w.frozen? ⟨t.2.1, t.2.2, none⟩ = false := frozen_of_row w _ _ _ t2 h2
  have hcap : 0 < cap := by have := hs.2.1; omega
  have hLo : L ≠ g := by have := hs.not_own' hL htL; rw [ownB_some hcap] at this; simpa using this
  have h2o : t.2.1 ≠ g := by have := hs.not_own' h2 ht2; rw [ownB_some hcap] at this; simpa using this
  have hgL : g ≠ L := fun e => hLo e.symm
  have hg2 : g ≠ t.2.1 := fun e => h2o e.symm
  have h2L : t.2.1 ≠ L := fun e => hL2 e.symm
  have hel := ents_len es
  obtain ⟨n, hn1⟩ : ∃ n, es.length = n + 1 := ⟨es.length - 1, by omega⟩
  obtain ⟨v1, v2⟩ := ents_get es n
  rw [show es[n]? = some t by rw [← ht]; congr 1; omega] at v1 v2
  have e1 := hs.cell hcap (n * 2) (by omega)
  have e2 := hs.cell hcap (n * 2 + 1) (by omega)
  rw [v1] at e1
  rw [v2] at e2
  have k1 := hs.cell hcap (i * 2) (by omega)
  have k2 := hs.cell hcap (i * 2 + 1) (by omega)
  obtain ⟨u1, hu1⟩ : ∃ v, (ents es)[i * 2]? = some v := ⟨(ents es)[i * 2]'(by omega), List.getElem?_eq_getElem (by omega)⟩
  obtain ⟨u2, hu2⟩ : ∃ v, (ents es)[i * 2 + 1]? = some v := ⟨(ents es)[i * 2 + 1]'(by omega), List.getElem?_eq_getElem (by omega)⟩
  rw [hu1] at k1
  rw [hu2] at k2
  have f1 := hs.frozen hcap (off + n * 2)
  have f2 := hs.frozen hcap (off + (n * 2 + 1))
  have f3 := hs.frozen hcap (off + i * 2)
  have f4 := hs.frozen hcap (off + (i * 2 + 1))
  rw [← Nat.add_assoc] at e2 f2 k2 f4
  simp only [Option.map_some] at e1 e2
  have hltg := World.block_lt_of_cell? _ _ e1
  have hltL := lt_of_block hL
  have hlt2 := lt_of_block h2
  have HPRE : Hid (∀ m, (w.drewN m).heap[L]? = some (.cells cL tL (0, 0)) ∧ (w.drewN m).heap[t.2.1]? = some (.cells c2 t2 (0, 0)) ∧ Slc (w.drewN m) 108 2 (some ⟨g, off, none⟩) es.length cap (ents es) ∧ Outside [] w (w.drewN m)) := fun m => ⟨by simpa using hL, by simpa using h2, slc_drew hs m, (Outside.refl [] w).drewN m⟩
  have HT := hide ht
  have HI := hide hi
  have HN1 := hide hn1
  have hsl := run_front75 g off (n + 1) cap n (by omega) (by have := hs.2.1; omega)
  have hcL := hc
  clear hL hP h2 hc hp hc2 hs hu1 hu2 hel v1 v2 ht
  rw [hn1] at c0
  have hn' : n + 1 ≤ 200000 := by omega
  have hin : i < n := by omega
  have hin1 : i < n + 1 := by omega
  have hne : ((i : Int) == (n : Int)) = false := by rw [beq_eq_false_iff_ne]; omega
  have hne2 : ¬ i * 2 = n * 2 := by omega
  clear hn hi hn1
  have HCL : Hid (some (Value.slice (some ⟨g, off, none⟩) (n + 1) cap) = cL[o]?) := by show _ = _; rw [hcL, HN1.out]
  clear hcL
  obtain ⟨X2, P2, po2⟩ := t
  go_enter Yba.func35, Yba.ntmps35
  go_wp2_with fail
  go_quiet (fail)
  have ec : ∀ a, w.cell? a = (w.drewN nq).cell? a := fun a => by simp
  have ef : ∀ a, w.frozen? a = (w.drewN nq).frozen? a := fun a => by simp
  have ez : w.heap.size = (w.drewN nq).heap.size := by simp
  rw [ec] at c0 c1 d1 e1 e2 k1 k2
  rw [ef] at f0 d2 f1 f2 f3 f4
  rw [ez] at hltg hltL hlt2
  obtain ⟨q1, q2, q3, q4⟩ := HPRE.out nq
  have HQ1 := hide q1
  have HQ2 := hide q2
  have HQ3 := hide q3
  have HQ4 := hide q4
  clear ec ef ez HPRE q1 q2 q3 q4
  generalize w.drewN nq = wq at *
  go_wp2
  go_region
  obtain ⟨W4, hW4, m1, m2, m3, m4⟩ := mid1 (t := (X2, P2, po2)) (i := i) (.cells #[.pointer (some ⟨X2, 0, none⟩), .pointer (some ⟨P2, po2, none⟩)] 108) HQ1.out HQ2.out hLo h2o hL2 HQ3.out hcap HI.out
  rw [← hW4]
  have hnn : es.length - 1 = n := by have := HN1.out; omega
  have x0 : W4.cell? ⟨L, o, none⟩ = some (.slice (some ⟨g, off, none⟩) (n + 1) cap) := by
    rw [cell_of_row W4 L o _ tL (0, 0) m1, ← HCL.out]
  have x1 : W4.frozen? ⟨L, o, none⟩ = false := frozen_of_row W4 L o _ tL m1
  have hel := ents_len es
  have y1 := m3.cell hcap (n * 2) (by omega)
  have y2 := m3.cell hcap (n * 2 + 1) (by omega)
  obtain ⟨u3, hu3⟩ : ∃ v, (((ents es).set (i * 2) (.pointer (some ⟨X2, 0, none⟩))).set (i * 2 + 1) (.pointer (some ⟨P2, po2, none⟩)))[n * 2]? = some v := ⟨_, List.getElem?_eq_getElem (by simp; omega)⟩
  obtain ⟨u4, hu4⟩ : ∃ v, (((ents es).set (i * 2) (.pointer (some ⟨X2, 0, none⟩))).set (i * 2 + 1) (.pointer (some ⟨P2, po2, none⟩)))[n * 2 + 1]? = some v := ⟨_, List.getElem?_eq_getElem (by simp; omega)⟩
  rw [hu3] at y1
  rw [hu4] at y2
  have z1 := m3.frozen hcap (off + n * 2)
  have z2 := m3.frozen hcap (off + (n * 2 + 1))
  rw [← Nat.add_assoc] at y2 z2
  have hl1 := World.block_lt_of_cell? _ _ y1
  have hl2 := lt_of_block m1
  have HFIN := hide (mid2 (o := o) d hLo h2o hL2 hcap HT.out HI.out m1 m2 m3 ((HQ4.out.mono (by simp)).trans m4))
  rw [hnn] at HFIN
  clear hu3 hu4 hel m1 m2 m3 m4 hW4 c0 c1 d1 d2 f0 f1 f2 f3 f4 e1 e2 k1 k2
  go_wp2
  go_end0
  exact ⟨rfl, HFIN.out⟩

end Go.Proofs.Ybulkdukm
