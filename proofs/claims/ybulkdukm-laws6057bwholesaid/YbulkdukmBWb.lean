/-
  THE LISTS THAT THE LAW KEEPS OF ITS OWN (law B).
-/
import Derived.Test.YbulkdukmBRound
import Derived.Deep.RegionLawGrows
namespace Go.Proofs.Ybulkdukm
open Go.RowKit
set_option linter.unusedVariables false

theorem setCells_row (g : Nat) (e : TypeId) : ∀ (vs : List Value) (k : Nat) (cur : Array Value) (W : World), W.heap[g]? = some (.cells cur e (0, 0)) → k + vs.length ≤ cur.size →
    (W.setCells g k vs).heap[g]? = some (.cells (cur.toList.take k ++ vs ++ cur.toList.drop (k + vs.length)).toArray e (0, 0)) ∧ Outside [g] W (W.setCells g k vs) := by
  intro vs
  induction vs with
  | nil =>
    intro k cur W hW hk
    refine ⟨?_, Outside.refl _ _⟩
    simpa [World.setCells] using hW
  | cons v vs ih =>
    intro k cur W hW hk
    simp only [List.length_cons] at hk
    have hW1 := heap_setCell_same W g k cur e v hW
    obtain ⟨i1, i2⟩ := ih (k + 1) _ _ hW1 (by simp; omega)
    refine ⟨?_, ?_⟩
    · show ((W.setCell ⟨g, k, none⟩ v).setCells g (k + 1) vs).heap[g]? = _
      rw [i1]
      congr 2
      have es := list_seg_step cur.toList k v vs (by simp; omega)
      simpa [Array.toList_setIfInBounds] using es
    · show Outside [g] W ((W.setCell ⟨g, k, none⟩ v).setCells g (k + 1) vs)
      exact ((Outside.refl _ W).setCell g k (.inl (by simp)) v).trans i2

/-- append, whether there is room or not, as one step of a region that draws its order. -/
theorem step_append_cut {P : Program} {ops : Array Oper} {o : Oper} {a : Act} {w : World} {K : Act → World → Prop} {Q : Exit → Act → World → Prop} {E : Prop}
    (hg : o.guard = none) (s x : Operand) (t : TypeId) (hop : o.op = Op.call { callee := Callee.builtin Builtin.append, args := #[s, x], argTypes := #[t, t] })
    (e : TypeId) (i : TypeInfo) (z : Value) (size bytes : Nat) (h1 : P.underlying t = some (.slice e)) (h2 : P.info? e = some i) (h3 : i.zero = some z) (h4 : i.size = size) (h5 : i.bytes = bytes) (h6 : z.cells.size = size) (h7 : 0 < size)
    (ao : Option Addr) (n cap : Nat) (xs : List Value) (hs : a.eval s = .slice ao n cap) (hsl : Slc w e size ao n cap xs)
    (ad : Addr) (m c : Nat) (news : List Value) (hx : a.eval x = .slice (some ad) m c) (hn : news.length = m * size) (hc : ∀ j u, news[j]? = some u → w.cell? (ad.add j) = some u) (h1c : ∀ u ∈ news, u.oneCell' = true) (hm : 0 < m)
    (b1 : n + m ≤ maxLen) (b2 : (n + m) * bytes ≤ 140737488355328)
    (hK : ∀ ao' cap' w', Slc w' e size ao' (n + m) cap' (xs ++ news) → Outside (ownB ao cap) w w' → (∀ g ∈ ownB ao' cap', g ∈ ownB ao cap ∨ w.heap.size ≤ g) → K (a.put o.dst (.slice ao' (n + m) cap')) w') :
    if Region.wanted o (yielded ops a.tmps) = true then Oper.wp P o a w K Q else E := by
  have fin : ∀ v' w', w'.ownsRow w.heap.size e size v' (n + m) (xs ++ news) → w.grownBy w' none → K (a.put o.dst v') w' := by
    intro v' w' how hgr
    have how' := how
    obtain ⟨hl, hv⟩ := how
    rcases hv with ⟨_, h0⟩ | ⟨g, cap', cur, rfl, hb, _⟩
    · omega
    · refine hK _ _ w' (Slc.of_owns how') (Outside.of_grown hgr (fun k hk => by cases hk)) (fun x hx => .inr ?_)
      simp only [ownB] at hx
      split at hx
      · simp at hx
      · simp at hx; subst hx; exact hb
  have hlo := hsl.1
  by_cases hroom : n + m ≤ cap
  · obtain ⟨g, off, cur, rfl, hgb, hsz, ht⟩ := hsl.at_ (by omega)
    have h0 : cap ≠ 0 := by omega
    have hle : (n + m) * size ≤ cap * size := Nat.mul_le_mul_right _ hroom
    rw [Nat.add_mul] at hle
    have hfit : off + n * size + news.length ≤ cur.size := by omega
    obtain ⟨r1, r2⟩ := setCells_row g e news (off + n * size) cur w hgb hfit
    refine step_append_room hg s x t hop e i size h1 h2 h4 g off n cap hs ad m c news hx hn hc h1c hroom (fun j hj => ⟨?_, frozen_of_row w g _ cur e hgb⟩) ?_
    · have hlt : off + n * size + j < cur.size := by omega
      rw [cell_of_row w g _ cur e (0, 0) hgb]
      simp [hlt]
    · refine hK (some ⟨g, off, none⟩) cap _ ⟨?_, hroom, hsl.2.2.1, .inr ⟨g, off, _, rfl, r1, ?_, ?_⟩⟩ (r2.mono (by simp [ownB, h0])) (fun x hx => .inl hx)
      · rw [List.length_append, hlo, hn, Nat.add_mul]
      · simp only [List.size_toArray, List.length_append, List.length_take, List.length_drop, Array.length_toList]
        omega
      · have e1 : cur.toList.take (off + n * size) = cur.toList.take off ++ xs := by
          rw [← ht, List.take_add]
        rw [e1, List.append_assoc, List.append_assoc, List.drop_append_of_le_length (by simp; omega), List.drop_eq_nil_of_le (List.length_take_le _ _), List.nil_append, ← List.append_assoc, List.take_append_of_le_length (by simp [hlo, hn, Nat.add_mul])]
        exact List.take_of_length_le (by simp [hlo, hn, Nat.add_mul])
  · have hcap0 : cap = 0 → n = 0 := fun h => by have := hsl.2.1; omega
    refine step_append_grows hg s x t hop e i z size bytes h1 h2 h3 h4 h5 h6 h7 ao n cap xs hs (fun hno => ?_) hlo (fun b hb j u hu => ?_) ad m c news hx hn hc h1c (by omega) b1 b2 fin
    · by_cases h0 : cap = 0
      · exact ⟨hcap0 h0, h0⟩
      · obtain ⟨g, off, cur, hh, _⟩ := hsl.at_ (by omega)
        rw [hno] at hh
        cases hh
    · have hj : j < n * size := by
        have := (List.getElem?_eq_some_iff.1 hu).1
        omega
      by_cases h0 : cap = 0
      · rw [hcap0 h0] at hj
        simp at hj
      · obtain ⟨g, off, cur, hh, _⟩ := hsl.at_ (by omega)
        rw [hb] at hh
        cases hh
        subst hb
        rw [show (⟨g, off, none⟩ : Addr).add j = ⟨g, off + j, none⟩ from by unfold Addr.add; simp, hsl.cell (by omega) j hj]
        exact hu

/-- When all requests are made. -/
structure S3 (w : World) (L : Lay) (q : Int) (ND WS NO : Nat) (s : Sta) : Prop where
  sys : Sys w L s
  blt : Built L q L.n L.K s
  nds : w.heap[ND]? = some (.cells (ndr L).toArray 44 (0, 0))
  ws : w.heap[WS]? = some (.cells (wsr L.K L.n L.n).toArray 46 (0, 0))
  no : w.heap[NO]? = some (.cells (nor L.nd L.n L.n).toArray 3 (0, 0))
theorem L2.s3 {w0 w : World} {L : Lay} {q : Int} {n ND WS NO : Nat} {K T : Nat → Nat} {s : Sta} (h : L2 w0 w L q n n ND WS NO K T s) : S3 w (L.at n K T) q ND WS NO s :=
  ⟨h.sys, ⟨h.blt.wl, h.blt.pos, h.blt.nl, h.blt.qa, h.blt.mu, h.blt.que, h.blt.wt, h.blt.m, h.blt.sz⟩, h.nds, h.ws, h.no⟩
theorem S3.outside {w w' : World} {L : Lay} {q : Int} {ND WS NO : Nat} {s : Sta} (h : S3 w L q ND WS NO s) (ho : Outside [] w w') : S3 w' L q ND WS NO s :=
  ⟨h.sys.outside ho (Clear.nil _ _), h.blt, ho.obj h.nds (by simp), ho.obj h.ws (by simp), ho.obj h.no (by simp)⟩

/-- The law's own lists of waiters. -/
def wbr (nk : Nat) (g : Nat → List Nat) (a : Nat → Option Addr) (c : Nat → Nat) : List Value := (List.range nk).map fun y => .slice (a y) (g y).length (c y)
structure WBS (w w' : World) (nk WB : Nat) (g : Nat → List Nat) (a : Nat → Option Addr) (c : Nat → Nat) : Prop where
  row : w'.heap[WB]? = some (.cells (wbr nk g a c).toArray 78 (0, 0))
  slc : ∀ y, y < nk → Slc w' 46 1 (a y) (g y).length (c y) (pvs (g y))
  lo : ∀ y, y < nk → ∀ b ∈ ownB (a y) (c y), w.heap.size ≤ b
  dis : ∀ y y', y < nk → y' < nk → y ≠ y' → ∀ b ∈ ownB (a y) (c y), b ∉ ownB (a y') (c y')
  out : Outside [] w w'
  lb : w.heap.size ≤ WB
theorem WBS.cell {w w' : World} {nk WB : Nat} {g : Nat → List Nat} {a : Nat → Option Addr} {c : Nat → Nat} (h : WBS w w' nk WB g a c) {y : Nat} (hy : y < nk) : w'.cell? ⟨WB, y, none⟩ = some (.slice (a y) (g y).length (c y)) := by
  rw [cell_of_row w' _ _ _ 78 (0, 0) h.row]
  simp [wbr, hy]
theorem WBS.frozen {w w' : World} {nk WB : Nat} {g : Nat → List Nat} {a : Nat → Option Addr} {c : Nat → Nat} (h : WBS w w' nk WB g a c) (y : Nat) : w'.frozen? ⟨WB, y, none⟩ = false := frozen_of_row _ _ _ _ 78 h.row
def nils (n : Nat) : Array Value := (List.replicate n (Value.slice none 0 0)).toArray
theorem Yba.info78 : (Yba.prog.info? 78).map (fun i => (i.zero, i.size, i.bytes)) = some (some (.slice none 0 0), 1, 24) := by kernel_rfl
theorem made_nils (n : Nat) : madeCells (Value.slice none 0 0).cells (n * 1) = nils n := by
  unfold madeCells nils
  apply Array.ext_getElem?
  intro i
  by_cases h : i < n
  · simp [h, Value.cells, Nat.mod_one]
  · simp [h]
theorem mk_full104 (n : Nat) (hn : n ≤ 200000) (W : World) : (Instr.makeSlice 104 (.int .i64 (n : Int)) (.int .i64 (n : Int))).run Yba.prog W = .ok (.slice (some ⟨W.heap.size, 0, none⟩) n n) (W.alloc (.cells (nils n) 78)) := by
  obtain ⟨i, hi, hz0, hz1, hz2⟩ := info_parts Yba.info78
  have := run_make (P := Yba.prog) W 104 78 i (.slice none 0 0) Yba.underlying104 hi hz0 .i64 .i64 (n : Int) (n : Int) (by omega) (by omega) (by rw [hz2]; omega) (by omega)
  rw [this, hz1, Int.toNat_natCast, made_nils]
theorem WBS.made (w : World) (nk : Nat) : WBS w (w.alloc (.cells (nils nk) 78)) nk w.heap.size (fun _ => []) (fun _ => none) (fun _ => 0) := by
  refine ⟨?_, fun y hy => Slc.nil _ _ _ _, fun y hy b hb => by simp [ownB] at hb, fun y y' _ _ _ b hb => by simp [ownB] at hb, (Outside.refl [] w).alloc _, Nat.le_refl _⟩
  rw [heap_alloc_new w _]
  have : nils nk = (wbr nk (fun _ => []) (fun _ => none) (fun _ => 0)).toArray := by
    unfold nils wbr
    congr 1
    apply List.ext_getElem?
    intro c
    by_cases h : c < nk
    · simp [h]
    · simp [h]
  rw [this]
/-- One of the lists grows. -/
theorem WBS.next {w w' W w2 : World} {nk WB j b : Nat} {g : Nat → List Nat} {a : Nat → Option Addr} {c : Nat → Nat} {ao' : Option Addr} {cap' : Nat} (h : WBS w w' nk WB g a c) (hj : j < nk) (hW : Outside [] w' W)
    (hs : Slc w2 46 1 ao' ((g j).length + 1) cap' (pvs (g j) ++ [pv b])) (ho : Outside (ownB (a j) (c j)) W w2) (how : ∀ x ∈ ownB ao' cap', x ∈ ownB (a j) (c j) ∨ W.heap.size ≤ x) :
    (w2.cell? ⟨WB, j, none⟩ = some (.slice (a j) (g j).length (c j)) ∧ w2.frozen? ⟨WB, j, none⟩ = false) ∧ WBS w (w2.setCell ⟨WB, j, none⟩ (.slice ao' ((g j).length + 1) cap')) nk WB (upd g j (g j ++ [b])) (upd a j ao') (upd c j cap') := by
  have hO : Outside (ownB (a j) (c j)) w' w2 := (hW.mono (by simp)).trans ho
  have hWB := hO.obj h.row ((h.slc j hj).not_own' h.row (by decide))
  have hz := hW.size
  have hz0 := h.out.size
  have how' : ∀ x ∈ ownB ao' cap', x ∈ ownB (a j) (c j) ∨ w'.heap.size ≤ x := fun x hx => by
    rcases how x hx with e | e
    · exact .inl e
    · exact .inr (by omega)
  have hne : WB ∉ ownB ao' cap' := hs.not_own' hWB (by decide)
  have o2 : Outside [WB] w2 (w2.setCell ⟨WB, j, none⟩ (.slice ao' ((g j).length + 1) cap')) := (Outside.refl _ w2).setCell WB j (.inl (by simp)) _
  refine ⟨⟨(cell_eq' (hWB.trans h.row.symm)).trans (h.cell hj), frozen_of_row _ _ _ _ 78 hWB⟩, ?_, fun y hy => ?_, fun y hy x hx => ?_, fun y y' hy hy' hyy x hx => ?_, ?_, h.lb⟩
  · rw [heap_setCell_same w2 WB j _ 78 _ hWB]
    have e : (wbr nk g a c).set j (.slice ao' ((g j).length + 1) cap') = wbr nk (upd g j (g j ++ [b])) (upd a j ao') (upd c j cap') := by
      unfold wbr
      refine row_set hj ?_ (fun x hx => ?_)
      · rw [upd_same, upd_same, upd_same]
        simp
      · rw [upd_ne _ _ hx, upd_ne _ _ hx, upd_ne _ _ hx]
    rw [← e]
    simp
  · by_cases hyj : y = j
    · subst hyj
      rw [upd_same, upd_same, upd_same, ← pvs_snoc]
      have k := hs.outside o2 (fun x hx => by simp; rintro rfl; exact hne hx)
      simpa using k
    · rw [upd_ne _ _ hyj, upd_ne _ _ hyj, upd_ne _ _ hyj]
      exact ((h.slc y hy).outside hO (h.dis y j hy hj hyj)).outside o2 (fun x hx => by simp; rintro rfl; exact (h.slc y hy).not_own' h.row (by decide) hx)
  · by_cases hyj : y = j
    · subst hyj
      rw [upd_same, upd_same] at hx
      rcases how' x hx with e | e
      · exact h.lo y hy x e
      · omega
    · rw [upd_ne _ _ hyj, upd_ne _ _ hyj] at hx
      exact h.lo y hy x hx
  · have hnew : ∀ z, z < nk → z ≠ j → ∀ x ∈ ownB ao' cap', x ∉ ownB (a z) (c z) := fun z hzk hzj x hx hm => by
      rcases how' x hx with e | e
      · exact h.dis j z hj hzk (fun e => hzj e.symm) x e hm
      · have := (h.slc z hzk).lt x hm
        omega
    by_cases hyj : y = j
    · rw [hyj, upd_same, upd_same] at hx
      rw [upd_ne _ _ (fun e => hyy (hyj.trans e.symm)), upd_ne _ _ (fun e => hyy (hyj.trans e.symm))]
      exact hnew y' hy' (fun e => hyy (hyj.trans e.symm)) x hx
    · rw [upd_ne _ _ hyj, upd_ne _ _ hyj] at hx
      by_cases hy'j : y' = j
      · rw [hy'j, upd_same, upd_same]
        exact fun hm => hnew y hy hyj x hm hx
      · rw [upd_ne _ _ hy'j, upd_ne _ _ hy'j]
        exact h.dis y y' hy hy' hyy x hx
  · exact (h.out.then hO (fun x hx => .inr (h.lo j hj x hx))).setCell WB j (.inr h.lb) _

/-- Behind j lists, and q entries of the next. -/
def gAt (L : Lay) (s : Sta) (j q y : Nat) : List Nat := if y < j then (s.wl y).map L.K else if y = j then ((s.wl y).map L.K).take q else []
theorem gAt_zero (L : Lay) (s : Sta) : gAt L s 0 0 = fun _ => [] := by
  funext y
  unfold gAt
  simp
theorem gAt_now (L : Lay) (s : Sta) (j q : Nat) : gAt L s j q j = ((s.wl j).map L.K).take q := by
  unfold gAt
  rw [if_neg (by omega), if_pos rfl]
theorem gAt_full (L : Lay) (s : Sta) (j : Nat) : gAt L s j (s.wl j).length = gAt L s (j + 1) 0 := by
  funext y
  unfold gAt
  by_cases h1 : y < j
  · rw [if_pos h1, if_pos (by omega)]
  · by_cases h2 : y = j
    · subst h2
      rw [if_neg (by omega), if_pos rfl, if_pos (by omega), List.take_of_length_le (by simp)]
    · rw [if_neg h1, if_neg h2, if_neg (by omega)]
      simp
theorem gAt_next {L : Lay} {s : Sta} {j q x : Nat} (h : (s.wl j)[q]? = some x) : upd (gAt L s j q) j (gAt L s j q j ++ [L.K x]) = gAt L s j (q + 1) := by
  funext y
  by_cases h2 : y = j
  · subst h2
    rw [upd_same, gAt_now, gAt_now, take_snoc (x := L.K x) (by simp [h])]
  · rw [upd_ne _ _ h2]
    unfold gAt
    simp [h2]
theorem gAt_end (L : Lay) (s : Sta) {nk y : Nat} (h : y < nk) : gAt L s nk 0 y = (s.wl y).map L.K := by
  unfold gAt
  rw [if_pos h]

/-- The law's own lists, when they are full. -/
structure KB (w : World) (nk WB : Nat) (g : Nat → List Nat) (a : Nat → Option Addr) (c : Nat → Nat) (G : List Nat) (aN : Option Addr) (cN : Nat) : Prop where
  row : w.heap[WB]? = some (.cells (wbr nk g a c).toArray 78 (0, 0))
  slc : ∀ y, y < nk → Slc w 46 1 (a y) (g y).length (c y) (pvs (g y))
  nb : Slc w 44 1 aN G.length cN (pvs G)
theorem KB.outside {w w' : World} {nk WB : Nat} {g : Nat → List Nat} {a : Nat → Option Addr} {c : Nat → Nat} {G : List Nat} {aN : Option Addr} {cN : Nat} (h : KB w nk WB g a c G aN cN) (ho : Outside [] w w') : KB w' nk WB g a c G aN cN :=
  ⟨ho.obj h.row (by simp), fun y hy => (h.slc y hy).outside ho (by simp), h.nb.outside ho (by simp)⟩
theorem Fr.slc {L : Lay} {s : Sta} {w w' : World} (h : Fr L s w w') (hs : Sys w L s) {e : TypeId} {size n cap : Nat} {ao : Option Addr} {xs : List Value} (hb : Slc w e size ao n cap xs) (ht : e ≠ 60 ∧ e ≠ 77 ∧ e ≠ 99 ∧ e ≠ 94 ∧ e ≠ 106 ∧ e ≠ 108) : Slc w' e size ao n cap xs := by
  refine hb.of_block (fun g hg => ?_)
  have h0 : cap ≠ 0 := by intro h0; simp [ownB, h0] at hg
  obtain ⟨b, off, cur, he, hh, _⟩ := hb.at_ (by omega)
  simp only [ownB, h0, if_false, he] at hg
  simp at hg
  subst hg
  rw [h.obj hs hh ht, hh]
theorem KB.fr {L : Lay} {s : Sta} {w w' : World} {nk WB : Nat} {g : Nat → List Nat} {a : Nat → Option Addr} {c : Nat → Nat} {G : List Nat} {aN : Option Addr} {cN : Nat} (h : KB w nk WB g a c G aN cN) (hf : Fr L s w w') (hs : Sys w L s) : KB w' nk WB g a c G aN cN :=
  ⟨hf.obj hs h.row (by decide), fun y hy => hf.slc hs (h.slc y hy) (by decide), hf.slc hs h.nb (by decide)⟩
theorem KB.cell {w : World} {nk WB : Nat} {g : Nat → List Nat} {a : Nat → Option Addr} {c : Nat → Nat} {G : List Nat} {aN : Option Addr} {cN : Nat} (h : KB w nk WB g a c G aN cN) {y : Nat} (hy : y < nk) : w.cell? ⟨WB, y, none⟩ = some (.slice (a y) (g y).length (c y)) := by
  rw [cell_of_row w _ _ _ 78 (0, 0) h.row]
  simp [wbr, hy]
theorem WBS.kb {w w1 w' : World} {L : Lay} {s : Sta} {WB : Nat} {a : Nat → Option Addr} {c : Nat → Nat} {aN : Option Addr} {cN : Nat} (h : WBS w w1 L.nk WB (gAt L s L.nk 0) a c) (ho : Own1 w1 w' 44 1 aN s.nl.length cN (pvs (s.nl.map L.Nb))) :
    KB w' L.nk WB (fun y => (s.wl y).map L.K) a c (s.nl.map L.Nb) aN cN := by
  refine ⟨?_, fun y hy => ?_, by simpa using ho.slc⟩
  · have e : wbr L.nk (gAt L s L.nk 0) a c = wbr L.nk (fun y => (s.wl y).map L.K) a c := by
      unfold wbr
      apply List.map_congr_left
      intro y hy
      rw [gAt_end L s (by simpa using hy)]
    rw [← e]
    exact ho.out.obj h.row (by simp)
  · have k := (h.slc y hy).outside ho.out (by simp)
    rw [gAt_end L s hy] at k
    exact k
theorem S3.nds_cell {w : World} {L : Lay} {q : Int} {ND WS NO : Nat} {s : Sta} (h : S3 w L q ND WS NO s) {j : Nat} (hj : j < L.nk) : w.cell? ⟨ND, j, none⟩ = some (.pointer (some ⟨L.Nb j, 0, none⟩)) := by
  rw [cell_of_row w _ _ _ 44 (0, 0) h.nds]
  simp [ndr, hj, pv]
theorem S3.ws_cell {w : World} {L : Lay} {q : Int} {ND WS NO : Nat} {s : Sta} (h : S3 w L q ND WS NO s) {i : Nat} (hi : i < L.n) : w.cell? ⟨WS, i, none⟩ = some (.pointer (some ⟨L.K i, 0, none⟩)) := by
  rw [cell_of_row w _ _ _ 46 (0, 0) h.ws]
  simp [wsr, hi, pv]
theorem S3.no_cell {w : World} {L : Lay} {q : Int} {ND WS NO : Nat} {s : Sta} (h : S3 w L q ND WS NO s) {i : Nat} (hi : i < L.n) : w.cell? ⟨NO, i, none⟩ = some (.int .i64 (L.nd i : Int)) := by
  rw [cell_of_row w _ _ _ 3 (0, 0) h.no]
  simp [nor, hi]

section
variable {w : World} {L : Lay} {s : Sta}
/-- An entry of a node's list: what it points to. -/
theorem Sys.qx (h : Sys w L s) {j q x : Nat} (hj : j < L.nk) (hq : (s.wl j)[q]? = some x) : ∃ g off, s.ao j = some ⟨g, off, none⟩ ∧ w.cell? ⟨g, off + q * 2, none⟩ = some (.pointer (some ⟨L.K x, 0, none⟩)) ∧ w.cell? ⟨g, off + q * 2 + 1, none⟩ = some (.pointer (some ⟨L.K x, 9, none⟩)) := by
  have hs := h.qs.s j hj
  have hlt := (List.getElem?_eq_some_iff.1 hq).1
  have hcap : 0 < s.cp j := by have := hs.2.1; omega
  obtain ⟨g, off, _, hao, _⟩ := hs.at_ hcap
  rw [hao] at hs
  refine ⟨g, off, hao, ?_, ?_⟩
  · rw [hs.cell hcap (q * 2) (by omega)]
    rw [(ents_get _ q).1, List.getElem?_map, hq]
    rfl
  · rw [Nat.add_assoc, hs.cell hcap (q * 2 + 1) (by omega)]
    rw [(ents_get _ q).2, List.getElem?_map, hq]
    rfl
theorem Sys.nx (h : Sys w L s) {q x : Nat} (hq : s.nl[q]? = some x) : ∃ g off, s.aoN = some ⟨g, off, none⟩ ∧ w.cell? ⟨g, off + q * 2, none⟩ = some (.pointer (some ⟨L.Nb x, 0, none⟩)) ∧ w.cell? ⟨g, off + q * 2 + 1, none⟩ = some (.pointer (some ⟨L.Qb x, 41, none⟩)) := by
  have hs := h.gs.s
  have hlt := (List.getElem?_eq_some_iff.1 hq).1
  have hcap : 0 < s.cpN := by have := hs.2.1; omega
  obtain ⟨g, off, _, hao, _⟩ := hs.at_ hcap
  rw [hao] at hs
  refine ⟨g, off, hao, ?_, ?_⟩
  · rw [hs.cell hcap (q * 2) (by omega)]
    rw [(ents_get _ q).1, List.getElem?_map, hq]
    rfl
  · rw [Nat.add_assoc, hs.cell hcap (q * 2 + 1) (by omega)]
    rw [(ents_get _ q).2, List.getElem?_map, hq]
    rfl
end

end Go.Proofs.Ybulkdukm
