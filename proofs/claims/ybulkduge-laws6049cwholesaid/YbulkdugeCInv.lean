/-
  WHAT THE LAW C's LOOPS HOLD: the tally, the model's two slices.
-/
import Derived.Test.YbulkdugeCFind
namespace Go.Proofs.Ybulkduge
open Go.RowKit
set_option linter.unusedVariables false

theorem Yba.info62 : (Yba.prog.info? 62).map (fun i => (i.zero, i.size, i.bytes)) = some (some (.agg #[.int .u64 0, .bool false]), 2, 16) := by kernel_rfl

theorem flatE_snoc (es : List Ent) (e : Ent) : flatE es ++ ec e = flatE (es ++ [e]) := by simp [flatE]
theorem flatE_append (a b : List Ent) : flatE (a ++ b) = flatE a ++ flatE b := by simp [flatE]
theorem ec_one (e : Ent) : ∀ u ∈ ec e, u.oneCell' = true := by
  intro u hu
  simp only [ec, List.mem_cons, List.not_mem_nil, or_false] at hu
  rcases hu with rfl | rfl <;> rfl
theorem flatE_one (es : List Ent) : ∀ u ∈ flatE es, u.oneCell' = true := by
  intro u hu
  simp only [flatE, List.mem_flatMap] at hu
  obtain ⟨e, _, h⟩ := hu
  exact ec_one e u h
theorem flatE_take (es : List Ent) (n : Nat) : (flatE es).take (n * 2) = flatE (es.take n) := by
  induction es generalizing n with
  | nil => simp [flatE]
  | cons e r ih =>
    cases n with
    | zero => simp [flatE]
    | succ n =>
      have h1 : flatE (e :: r) = .int .u64 (e.1 : Int) :: .bool e.2 :: flatE r := by simp [flatE, ec]
      have h2 : flatE (e :: r.take n) = .int .u64 (e.1 : Int) :: .bool e.2 :: flatE (r.take n) := by simp [flatE, ec]
      rw [h1, List.take_succ_cons, h2, Nat.succ_mul, ← ih n]
      simp [List.take_succ_cons]
theorem flatE_drop (es : List Ent) (n : Nat) : (flatE es).drop (n * 2) = flatE (es.drop n) := by
  induction es generalizing n with
  | nil => simp [flatE]
  | cons e r ih =>
    cases n with
    | zero => simp
    | succ n =>
      have h1 : flatE (e :: r) = .int .u64 (e.1 : Int) :: .bool e.2 :: flatE r := by simp [flatE, ec]
      rw [h1, List.drop_succ_cons, Nat.succ_mul, ← ih n]
      simp [List.drop_succ_cons]
theorem flatE_set (es : List Ent) (j k : Nat) (f g : Bool) (h : es[j]? = some (k, f)) : (flatE es).set (j * 2 + 1) (.bool g) = flatE (es.set j (k, g)) := by
  induction es generalizing j with
  | nil => simp at h
  | cons e r ih =>
    have h1 : ∀ (e : Ent) (r : List Ent), flatE (e :: r) = .int .u64 (e.1 : Int) :: .bool e.2 :: flatE r := fun e r => by simp [flatE, ec]
    cases j with
    | zero => simp at h; subst h; simp [h1]
    | succ j =>
      rw [List.getElem?_cons_succ] at h
      show (flatE (e :: r)).set ((j + 1) * 2 + 1) (.bool g) = flatE (e :: r.set j (k, g))
      rw [h1, h1, ← ih j h, Nat.succ_mul]
      rfl

/-- Cells stored in a row, one behind the other. -/
theorem setCells_row (e : TypeId) (g : Nat) : ∀ (vs : List Value) (k : Nat) (cur : Array Value) (W : World), W.heap[g]? = some (.cells cur e (0, 0)) → k + vs.length ≤ cur.size →
    (W.setCells g k vs).heap[g]? = some (.cells (cur.toList.take k ++ vs ++ cur.toList.drop (k + vs.length)).toArray e (0, 0)) ∧ Outside [g] W (W.setCells g k vs) := by
  intro vs
  induction vs with
  | nil =>
    intro k cur W hW hk
    refine ⟨?_, Outside.refl _ _⟩
    simpa [World.setCells] using hW
  | cons v vs ih =>
    intro k cur W hW hk
    simp only [List.length_cons] at hk
    have hW1 := heap_setCell_same W g k cur e v hW
    obtain ⟨i1, i2⟩ := ih (k + 1) _ _ hW1 (by simp; omega)
    refine ⟨?_, ?_⟩
    · show ((W.setCell ⟨g, k, none⟩ v).setCells g (k + 1) vs).heap[g]? = _
      rw [i1]
      congr 2
      have es := list_seg_step cur.toList k v vs (by simp; omega)
      simpa [Array.toList_setIfInBounds] using es
    · show Outside [g] W ((W.setCell ⟨g, k, none⟩ v).setCells g (k + 1) vs)
      exact ((Outside.refl _ W).setCell g k (.inl (by simp)) v).trans i2

/-- 'append(es[:j], es[j+1:]...)': what is left in the row. -/
theorem slc_erase {w : World} {g off n cap : Nat} {es : List Ent} (h : Slc w 62 2 (some ⟨g, off, none⟩) n cap (flatE es)) (hn : es.length = n) (j : Nat) (hj : j < n) :
    Slc (w.setCells g (off + j * 2) (flatE (es.drop (j + 1)))) 62 2 (some ⟨g, off, none⟩) (n - 1) cap (flatE (es.eraseIdx j)) ∧ Outside [g] w (w.setCells g (off + j * 2) (flatE (es.drop (j + 1)))) := by
  have hnc := h.2.1
  obtain ⟨g', off', cur, he, hg, hs, ht⟩ := h.at_ (by omega)
  simp only [Option.some.injEq, Addr.mk.injEq, and_true] at he
  obtain ⟨rfl, rfl⟩ := he
  have hl : (flatE (es.drop (j + 1))).length = (n - (j + 1)) * 2 := by rw [flatE_length, List.length_drop, hn]
  obtain ⟨r1, r2⟩ := setCells_row 62 g (flatE (es.drop (j + 1))) (off + j * 2) cur w hg (by rw [hl, hs]; omega)
  refine ⟨⟨?_, by omega, h.2.2.1, .inr ⟨g, off, _, rfl, r1, ?_, ?_⟩⟩, r2⟩
  · rw [flatE_length, List.length_eraseIdx_of_lt (by omega), hn]
  · simp only [List.size_toArray, List.length_append, List.length_take, List.length_drop, Array.length_toList, hl]
    omega
  · have e1 : cur.toList.take (off + j * 2) = cur.toList.take off ++ flatE (es.take j) := by
      rw [List.take_add, ← flatE_take, ← ht, List.take_take, Nat.min_eq_left (by omega)]
    have ho : off ≤ cur.toList.length := by simp; omega
    show (((cur.toList.take (off + j * 2) ++ flatE (es.drop (j + 1)) ++ cur.toList.drop (off + j * 2 + (flatE (es.drop (j + 1))).length)).drop off).take ((n - 1) * 2)) = _
    rw [e1, List.append_assoc, List.append_assoc, List.drop_append_of_le_length (by simp; omega), List.drop_eq_nil_of_le (List.length_take_le _ _), List.nil_append, ← List.append_assoc, ← flatE_append, ← List.eraseIdx_eq_take_drop_succ]
    rw [List.take_append_of_le_length (by rw [flatE_length, List.length_eraseIdx_of_lt (by omega), hn]; omega)]
    exact List.take_of_length_le (by rw [flatE_length, List.length_eraseIdx_of_lt (by omega), hn]; omega)

/-- What the law's loops hold: the tally is s; the model's slices hold m's reports and m's entries. -/
structure CI (w0 wr : World) (T M LG sd R : Nat) (ao : Option Addr) (cap : Nat) (s : CSt) (aw : Option Addr) (cw : Nat) (ae : Option Addr) (ce : Nat) (es : List Ent) (lg : List Pg) : Prop where
  ts : TS wr T M LG sd R 0 ao cap s
  wv : Slc wr 54 5 aw lg.length cw (flatP R lg)
  ev : Slc wr 62 2 ae es.length ce (flatE es)
  dj : ∀ g ∈ ownB aw cw, g ∉ ownB ao cap
  bel : Below w0.heap.size w0 wr
  lT : w0.heap.size ≤ T
  lM : w0.heap.size ≤ M
  lL : w0.heap.size ≤ LG
  lo : ∀ g ∈ ownB ao cap, w0.heap.size ≤ g
  lw : ∀ g ∈ ownB aw cw, w0.heap.size ≤ g
  le : ∀ g ∈ ownB ae ce, w0.heap.size ≤ g

section
variable {w0 w w' : World} {T M LG sd R : Nat} {ao : Option Addr} {cap : Nat} {s : CSt} {aw : Option Addr} {cw : Nat} {ae : Option Addr} {ce : Nat} {es : List Ent} {lg : List Pg}

theorem slc_ne {w : World} {e e' : TypeId} {size size' : Nat} {ao ao' : Option Addr} {n n' cap cap' : Nat} {xs xs' : List Value} (h : Slc w e size ao n cap xs) (h' : Slc w e' size' ao' n' cap' xs') (hne : e ≠ e') : ∀ g ∈ ownB ao cap, g ∉ ownB ao' cap' := by
  intro g hg
  have h0 : cap ≠ 0 := by intro h0; simp [ownB, h0] at hg
  obtain ⟨g1, off, cur, he, hh, _⟩ := h.at_ (by omega)
  simp only [ownB, h0, if_false, he] at hg
  simp at hg
  subst hg
  exact h'.not_own' hh (fun e => hne e.symm)

theorem CI.sz (h : CI w0 w T M LG sd R ao cap s aw cw ae ce es lg) : w0.heap.size ≤ w.heap.size := h.bel.size
theorem CI.w_t (h : CI w0 w T M LG sd R ao cap s aw cw ae ce es lg) : T ∉ ownB aw cw := h.wv.not_own' h.ts.ob (by decide)
theorem CI.w_l (h : CI w0 w T M LG sd R ao cap s aw cw ae ce es lg) : LG ∉ ownB aw cw := h.wv.not_own' h.ts.lv.1 (by decide)
theorem CI.w_m (h : CI w0 w T M LG sd R ao cap s aw cw ae ce es lg) : M ∉ ownB aw cw := h.ts.mp.not_own h.wv
theorem CI.e_t (h : CI w0 w T M LG sd R ao cap s aw cw ae ce es lg) : T ∉ ownB ae ce := h.ev.not_own' h.ts.ob (by decide)
theorem CI.e_l (h : CI w0 w T M LG sd R ao cap s aw cw ae ce es lg) : LG ∉ ownB ae ce := h.ev.not_own' h.ts.lv.1 (by decide)
theorem CI.e_m (h : CI w0 w T M LG sd R ao cap s aw cw ae ce es lg) : M ∉ ownB ae ce := h.ts.mp.not_own h.ev
theorem CI.e_o (h : CI w0 w T M LG sd R ao cap s aw cw ae ce es lg) : ∀ g ∈ ownB ae ce, g ∉ ownB ao cap := slc_ne h.ev h.ts.lv.2 (by decide)
theorem CI.e_w (h : CI w0 w T M LG sd R ao cap s aw cw ae ce es lg) : ∀ g ∈ ownB ae ce, g ∉ ownB aw cw := slc_ne h.ev h.wv (by decide)

theorem CI.grow (h : CI w0 w T M LG sd R ao cap s aw cw ae ce es lg) (ho : Outside [] w w') : CI w0 w' T M LG sd R ao cap s aw cw ae ce es lg :=
  ⟨h.ts.outside ho (by simp) (by simp) (by simp) (by simp), h.wv.outside ho (by simp), h.ev.outside ho (by simp), h.dj, ho.below h.bel h.sz (by simp), h.lT, h.lM, h.lL, h.lo, h.lw, h.le⟩

theorem CI.recorded {s' : CSt} (h : CI w0 w T M LG sd R ao cap s aw cw ae ce es lg) (hr : Recorded T M LG sd R ao cap s' w w') : ∃ ao' cap', CI w0 w' T M LG sd R ao' cap' s' aw cw ae ce es lg := by
  obtain ⟨ao', cap', h1, h2⟩ := hr
  have nw : ∀ g ∈ ownB aw cw, g ∉ [T, M, LG] ++ ownB ao cap := fun g hg => by
    simp only [List.cons_append, List.nil_append, List.mem_cons, not_or]
    exact ⟨fun e => h.w_t (e ▸ hg), fun e => h.w_m (e ▸ hg), fun e => h.w_l (e ▸ hg), h.dj g hg⟩
  have ne : ∀ g ∈ ownB ae ce, g ∉ [T, M, LG] ++ ownB ao cap := fun g hg => by
    simp only [List.cons_append, List.nil_append, List.mem_cons, not_or]
    exact ⟨fun e => h.e_t (e ▸ hg), fun e => h.e_m (e ▸ hg), fun e => h.e_l (e ▸ hg), h.e_o g hg⟩
  have hsz := h.sz
  refine ⟨ao', cap', h1, h.wv.outside h2.out nw, h.ev.outside h2.out ne, fun g hg hg' => ?_, h2.out.below h.bel h.sz (fun x hx => ?_), h.lT, h.lM, h.lL, fun g hg => ?_, h.lw, h.le⟩
  · rcases h2.own g hg' with k | k
    · exact h.dj g hg k
    · have := h.wv.lt g hg
      omega
  · simp only [List.cons_append, List.nil_append, List.mem_cons] at hx
    rcases hx with rfl | rfl | rfl | hx
    · exact h.lT
    · exact h.lM
    · exact h.lL
    · exact h.lo x hx
  · rcases h2.own g hg with k | k
    · exact h.lo g k
    · omega

/-- The entries' slice turned. -/
theorem CI.ents {ae' : Option Addr} {ce' : Nat} {es' : List Ent} (h : CI w0 w T M LG sd R ao cap s aw cw ae ce es lg) (hs : Slc w' 62 2 ae' es'.length ce' (flatE es')) (ho : Outside (ownB ae ce) w w') (how : ∀ g ∈ ownB ae' ce', g ∈ ownB ae ce ∨ w.heap.size ≤ g) : CI w0 w' T M LG sd R ao cap s aw cw ae' ce' es' lg := by
  have hsz := h.sz
  refine ⟨h.ts.outside ho h.e_t h.e_m h.e_l (fun g hg hg' => h.e_o g hg' hg), h.wv.outside ho (fun g hg hg' => h.e_w g hg' hg), hs, h.dj, ho.below h.bel h.sz h.le, h.lT, h.lM, h.lL, h.lo, h.lw, fun g hg => ?_⟩
  rcases how g hg with k | k
  · exact h.le g k
  · omega

/-- The wanted reports' slice turned. -/
theorem CI.wants {aw' : Option Addr} {cw' : Nat} {lg' : List Pg} (h : CI w0 w T M LG sd R ao cap s aw cw ae ce es lg) (hs : Slc w' 54 5 aw' lg'.length cw' (flatP R lg')) (ho : Outside (ownB aw cw) w w') (how : ∀ g ∈ ownB aw' cw', g ∈ ownB aw cw ∨ w.heap.size ≤ g) : CI w0 w' T M LG sd R ao cap s aw' cw' ae ce es lg' := by
  have hsz := h.sz
  refine ⟨h.ts.outside ho h.w_t h.w_m h.w_l (fun g hg hg' => h.dj g hg' hg), hs, h.ev.outside ho (fun g hg => h.e_w g hg), fun g hg hg' => ?_, ho.below h.bel h.sz h.lw, h.lT, h.lM, h.lL, h.lo, fun g hg => ?_, h.le⟩
  · rcases how g hg with k | k
    · exact h.dj g k hg'
    · have := h.ts.lv.2.lt g hg'
      omega
  · rcases how g hg with k | k
    · exact h.lw g k
    · omega

/-- 'es[j].f = g'. -/
theorem CI.set {g0 off j k : Nat} {f g : Bool} (h : CI w0 w T M LG sd R ao cap s aw cw (some ⟨g0, off, none⟩) ce es lg) (hj : es[j]? = some (k, f)) : CI w0 (w.setCell ⟨g0, off + j * 2 + 1, none⟩ (.bool g)) T M LG sd R ao cap s aw cw (some ⟨g0, off, none⟩) ce (es.set j (k, g)) lg := by
  have hjl := (List.getElem?_eq_some_iff.1 hj).1
  have hc := h.ev.2.1
  have hs := h.ev.set (by omega) (j * 2 + 1) (by omega) (.bool g)
  rw [flatE_set es j k f g hj] at hs
  have hl : (es.set j (k, g)).length = es.length := List.length_set
  refine h.ents (by rw [hl]; exact hs) ?_ (fun g hg => .inl hg)
  rw [ownB_some (by omega)]
  exact (Outside.refl _ w).setCell g0 _ (.inl (by simp)) _
end

end Go.Proofs.Ybulkduge
