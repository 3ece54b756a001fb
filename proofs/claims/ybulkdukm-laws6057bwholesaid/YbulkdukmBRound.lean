/-
  THE ROUND OF THE LAW's SECOND LOOP (law B).
-/
import Derived.Test.YbulkdukmBLoop2
import Derived.Deep.DeepCutAuto
import Derived.Deep.CutBlock
namespace Go.Proofs.Ybulkdukm
open Go.RowKit
set_option linter.unusedVariables false

/-- A slice of numbers that came in. -/
def Src1 (w : World) (k : IntKind) (a : Option Addr) (len : Nat) (f : Nat → Nat) : Prop := 0 < len → ∃ b off, a = some ⟨b, off, none⟩ ∧ b < w.heap.size ∧ ∀ j, j < len → w.cell? ⟨b, off + j, none⟩ = some (.int k (f j : Int))

theorem nds_cell {w0 w : World} {L : Lay} {q : Int} {n i ND WS NO : Nat} {K T : Nat → Nat} {s : Sta} (h : L2 w0 w L q n i ND WS NO K T s) {j : Nat} (hj : j < L.nk) : w.cell? ⟨ND, j, none⟩ = some (.pointer (some ⟨L.Nb j, 0, none⟩)) := by
  rw [cell_of_row w _ _ _ 44 (0, 0) h.nds]
  simp [ndr, hj, pv]

/-- The world when the transaction and the waiter are made. -/
def pushW (w : World) (L : Lay) (n : Nat) : World := (w.alloc (.cells (tcells (L.id n) (.pointer none)) 94)).alloc (.cells (wcells w.heap.size (L.Nb (L.nd n)) 0) 99)
theorem pushW_out (w : World) (L : Lay) (n : Nat) : Outside [] w (pushW w L n) := ((Outside.refl [] w).alloc _).alloc _
theorem push_cells (w : World) (L : Lay) (n : Nat) : (pushW w L n).cell? ⟨w.heap.size, 5, none⟩ = some (.pointer none) ∧ (pushW w L n).frozen? ⟨w.heap.size, 5, none⟩ = false ∧ (pushW w L n).cell? ⟨w.heap.size + 1, 0, none⟩ = some (.pointer (some ⟨w.heap.size, 0, none⟩)) := by
  have hT : (pushW w L n).heap[w.heap.size]? = some (.cells (tcells (L.id n) (.pointer none)) 94 (0, 0)) := ((Outside.refl [] _).alloc _).obj (heap_alloc_new w _) (by simp)
  have hK : (pushW w L n).heap[w.heap.size + 1]? = some (.cells (wcells w.heap.size (L.Nb (L.nd n)) 0) 99 (0, 0)) := by
    have e := heap_alloc_new (w.alloc (.cells (tcells (L.id n) (.pointer none)) 94)) (.cells (wcells w.heap.size (L.Nb (L.nd n)) 0) 99)
    rw [World.size_alloc] at e
    exact e
  exact ⟨by rw [cell_of_row _ _ _ _ 94 (0, 0) hT]; rfl, frozen_of_row _ _ _ _ 94 hT, by rw [cell_of_row _ _ _ _ 99 (0, 0) hK]; rfl⟩

/-- In the round: the request is made, and its node is among the nodes. -/
structure M2 (w0 w : World) (L : Lay) (n i ND WS NO kb tb : Nat) (K T : Nat → Nat) (s s3 : Sta) : Prop where
  sys : Sys w (L.at (i + 1) (upd K i kb) (upd T i tb)) s3
  nds : w.heap[ND]? = some (.cells (ndr L).toArray 44 (0, 0))
  ws : w.heap[WS]? = some (.cells (wsr K n i).toArray 46 (0, 0))
  no : w.heap[NO]? = some (.cells (nor L.nd n i).toArray 3 (0, 0))
  lo : Lo w0.heap.size (L.at (i + 1) (upd K i kb) (upd T i tb)) s3
  out : Outside [] w0 w
  wl : s3.wl = s.wl
  nl : (s.wl (L.nd i) = [] → s3.nl = s.nl ++ [L.nd i] ∧ s3.qa = upd s.qa (L.nd i) s.nl.length) ∧ (s.wl (L.nd i) ≠ [] → s3.nl = s.nl ∧ s3.qa = s.qa)
  pos : s3.pos = upd s.pos i 0
  wt : s3.wt = upd (upd s.wt i false) i true
  rest : s3.mu = s.mu ∧ s3.que = s.que ∧ s3.m = s.m ∧ s3.sz = s.sz

/-- The same ahead of the test on the node's list. -/
structure M1 (w0 w : World) (L : Lay) (n i ND WS NO kb tb : Nat) (K T : Nat → Nat) (s : Sta) : Prop where
  sys : Sys w (L.at (i + 1) (upd K i kb) (upd T i tb)) { s with pos := upd s.pos i 0, wt := upd (upd s.wt i false) i true }
  nds : w.heap[ND]? = some (.cells (ndr L).toArray 44 (0, 0))
  ws : w.heap[WS]? = some (.cells (wsr K n i).toArray 46 (0, 0))
  no : w.heap[NO]? = some (.cells (nor L.nd n i).toArray 3 (0, 0))
  lo : Lo w0.heap.size (L.at (i + 1) (upd K i kb) (upd T i tb)) { s with pos := upd s.pos i 0, wt := upd (upd s.wt i false) i true }
  out : Outside [] w0 w

theorem L2.m1 {w0 w : World} {L : Lay} {q : Int} {n i ND WS NO : Nat} {K T : Nat → Nat} {s : Sta} (h : L2 w0 w L q n i ND WS NO K T s) (hndi : L.nd i < L.nk) :
    M1 w0 ((pushW w L i).setCell ⟨w.heap.size, 5, none⟩ (.pointer (some ⟨w.heap.size + 1, 0, none⟩))) L n i ND WS NO (w.heap.size + 1) w.heap.size K T s := by
  have hp := h.sys.push (fun j hj x hx => (wlOf_lt (by rw [h.blt.wl j hj] at hx; exact hx)).1) hndi
  have h1 := hp.setT1 (i := i) (show i < i + 1 by omega)
  have eT : (L.at (i + 1) (upd K i (w.heap.size + 1)) (upd T i w.heap.size)).T i = w.heap.size := upd_same _ _ _
  have eK : (L.at (i + 1) (upd K i (w.heap.size + 1)) (upd T i w.heap.size)).K i = w.heap.size + 1 := upd_same _ _ _
  rw [eT, eK] at h1
  have ho : Outside [] w ((pushW w L i).setCell ⟨w.heap.size, 5, none⟩ (.pointer (some ⟨w.heap.size + 1, 0, none⟩))) := (pushW_out w L i).setCell _ _ (.inr (Nat.le_refl _)) _
  have hz := h.out.size
  exact ⟨h1, ho.obj h.nds (by simp), ho.obj h.ws (by simp), ho.obj h.no (by simp), h.lo.push (by omega) hz, h.out.then ho (by simp)⟩

theorem M1.skip {w0 w : World} {L : Lay} {n i ND WS NO kb tb : Nat} {K T : Nat → Nat} {s : Sta} (h : M1 w0 w L n i ND WS NO kb tb K T s) (hne : s.wl (L.nd i) ≠ []) : M2 w0 w L n i ND WS NO kb tb K T s { s with pos := upd s.pos i 0, wt := upd (upd s.wt i false) i true } :=
  ⟨h.sys, h.nds, h.ws, h.no, h.lo, h.out, rfl, ⟨fun e => absurd e hne, fun _ => ⟨rfl, rfl⟩⟩, rfl, rfl, rfl, rfl, rfl, rfl⟩
theorem M1.addN {w0 w w' : World} {L : Lay} {n i ND WS NO kb tb : Nat} {K T : Nat → Nat} {s : Sta} {ao' : Option Addr} {cp' : Nat} (h : M1 w0 w L n i ND WS NO kb tb K T s) (he : s.wl (L.nd i) = [])
    (hs : Sys w' (L.at (i + 1) (upd K i kb) (upd T i tb)) { s with pos := upd s.pos i 0, wt := upd (upd s.wt i false) i true, nl := s.nl ++ [L.nd i], aoN := ao', cpN := cp', qa := upd s.qa (L.nd i) s.nl.length }) (hf : Fr (L.at (i + 1) (upd K i kb) (upd T i tb)) { s with pos := upd s.pos i 0, wt := upd (upd s.wt i false) i true } w.drew w')
    (ho : ∀ g ∈ ownB ao' cp', g ∈ ownB s.aoN s.cpN ∨ w.drew.heap.size ≤ g) : M2 w0 w' L n i ND WS NO kb tb K T s { s with pos := upd s.pos i 0, wt := upd (upd s.wt i false) i true, nl := s.nl ++ [L.nd i], aoN := ao', cpN := cp', qa := upd s.qa (L.nd i) s.nl.length } := by
  have hd := h.sys.drew
  have od : Outside [] w0 w.drew := h.out.drew
  have odd : Outside [] w w.drew := (Outside.refl [] w).drew
  exact ⟨hs, hf.obj hd (odd.obj h.nds (by simp)) (by decide), hf.obj hd (odd.obj h.ws (by simp)) (by decide), hf.obj hd (odd.obj h.no (by simp)) (by decide), h.lo.addN od.size ho, hf.lo (b0 := 0) h.lo od, rfl, ⟨fun _ => ⟨rfl, rfl⟩, fun e => absurd he e⟩, rfl, rfl, rfl, rfl, rfl, rfl⟩

/-- The round's end. -/
theorem M2.done {w0 w w4 w5 : World} {L : Lay} {q : Int} {n i ND WS NO kb tb : Nat} {K T : Nat → Nat} {s s3 s4 : Sta} {ao' : Option Addr} {cp' : Nat} (h : M2 w0 w L n i ND WS NO kb tb K T s s3) (hb : Built L q i K s) (hndk : ∀ x, L.nd x < L.nk) (hin : i < n) (hWS : w0.heap.size ≤ WS) (hNO : w0.heap.size ≤ NO)
    (e4 : s4 = { s3 with wl := upd s3.wl (L.nd i) (s3.wl (L.nd i) ++ [i]), ao := upd s3.ao (L.nd i) ao', cp := upd s3.cp (L.nd i) cp', pos := upd s3.pos i (s3.wl (L.nd i)).length }) (h4 : Sys w4 (L.at (i + 1) (upd K i kb) (upd T i tb)) s4) (f4 : Fr (L.at (i + 1) (upd K i kb) (upd T i tb)) s3 w.drew w4) (o4 : ∀ g ∈ ownB ao' cp', g ∈ ownB (s3.ao (L.nd i)) (s3.cp (L.nd i)) ∨ w.drew.heap.size ≤ g)
    (h5 : Sys w5 (L.at (i + 1) (upd K i kb) (upd T i tb)) { s4 with m := fun x => if x = L.id i then some kb else s4.m x, sz := if (s4.m (L.id i)).isSome then s4.sz else s4.sz + 1 }) (f5 : Fr (L.at (i + 1) (upd K i kb) (upd T i tb)) s4 w4 w5) :
    ∃ s', (w5.heap[WS]? = some (.cells (wsr K n i).toArray 46 (0, 0)) ∧ w5.heap[NO]? = some (.cells (nor L.nd n i).toArray 3 (0, 0))) ∧ L2 w0 ((w5.setCell ⟨WS, i, none⟩ (pv kb)).setCell ⟨NO, i, none⟩ (.int .i64 (L.nd i : Int))) L q n (i + 1) ND WS NO (upd K i kb) (upd T i tb) s' := by
  have hd := h.sys.drew
  have od : Outside [] w0 w.drew := h.out.drew
  have odd : Outside [] w w.drew := (Outside.refl [] w).drew
  have ws4 := f4.obj hd (odd.obj h.ws (by simp)) (by decide)
  have no4 := f4.obj hd (odd.obj h.no (by simp)) (by decide)
  have nd4 := f4.obj hd (odd.obj h.nds (by simp)) (by decide)
  have ws5 := f5.obj h4 ws4 (by decide)
  have no5 := f5.obj h4 no4 (by decide)
  have nd5 := f5.obj h4 nd4 (by decide)
  have lo4 : Lo w0.heap.size (L.at (i + 1) (upd K i kb) (upd T i tb)) s4 := by rw [e4]; exact Lo.addW (hndk i) h.lo od.size o4
  have out4 : Outside [] w0 w4 := f4.lo (b0 := 0) h.lo od
  have out5 : Outside [] w0 w5 := f5.lo (b0 := 0) lo4 out4
  have hWN : WS ≠ NO := ne_tag ws5 no5 (by decide)
  have hWD : ND ≠ WS := ne_tag nd5 ws5 (by decide)
  have hND : ND ≠ NO := ne_tag nd5 no5 (by decide)
  have ho : Outside [WS, NO] w5 ((w5.setCell ⟨WS, i, none⟩ (pv kb)).setCell ⟨NO, i, none⟩ (.int .i64 (L.nd i : Int))) := ((Outside.refl _ w5).setCell WS i (.inl (by simp)) _).setCell NO i (.inl (by simp)) _
  have owns : ∀ {e : TypeId} {sz nn c : Nat} {a : Option Addr} {xs : List Value}, Slc w5 e sz a nn c xs → e ≠ 46 → e ≠ 3 → ∀ g ∈ ownB a c, g ∉ [WS, NO] := fun {e sz nn c a xs} hsl e1 e2 g hg => by
    simp
    exact ⟨by rintro rfl; exact hsl.not_own' ws5 e1 hg, by rintro rfl; exact hsl.not_own' no5 e2 hg⟩
  have hc : Clear (L.at (i + 1) (upd K i kb) (upd T i tb)) { s4 with m := fun x => if x = L.id i then some kb else s4.m x, sz := if (s4.m (L.id i)).isSome then s4.sz else s4.sz + 1 } [WS, NO] := by
    refine ⟨fun j hj => ?_, fun j hj => ?_, fun j hj => owns (h5.qs.s j hj) (by decide) (by decide), ?_, owns h5.gs.s (by decide) (by decide), ?_, fun x hx => ?_, fun x hx => ?_⟩
    · simp; exact ⟨ne_tag (h5.ns j hj) ws5 (by decide), ne_tag (h5.ns j hj) no5 (by decide)⟩
    · simp; exact ⟨ne_tag (h5.qs.q j hj) ws5 (by decide), ne_tag (h5.qs.q j hj) no5 (by decide)⟩
    · simp; exact ⟨ne_tag h5.gs.g ws5 (by decide), ne_tag h5.gs.g no5 (by decide)⟩
    · simp; exact ⟨fun e => h5.mp.ne ws5 e.symm, fun e => h5.mp.ne no5 e.symm⟩
    · simp; exact ⟨ne_tag (h5.ks.k x hx) ws5 (by decide), ne_tag (h5.ks.k x hx) no5 (by decide)⟩
    · simp; exact ⟨ne_tag (h5.ts.t x hx) ws5 (by decide), ne_tag (h5.ts.t x hx) no5 (by decide)⟩
  have og : Outside [WS] w5 (w5.setCell ⟨WS, i, none⟩ (pv kb)) := (Outside.refl _ w5).setCell WS i (.inl (by simp)) _
  have on : Outside [NO] (w5.setCell ⟨WS, i, none⟩ (pv kb)) ((w5.setCell ⟨WS, i, none⟩ (pv kb)).setCell ⟨NO, i, none⟩ (.int .i64 (L.nd i : Int))) := (Outside.refl _ _).setCell NO i (.inl (by simp)) _
  refine ⟨_, ⟨ws5, no5⟩, ⟨h5.outside ho hc, ?_, ho.obj nd5 (by simp; exact ⟨hWD, hND⟩), ?_, ?_, ?_, ?_⟩⟩
  · refine hb.next hndk (fun j => ?_) (fun x => ?_) ?_ ?_ ?_ (fun x => ?_) (fun k => ?_) ?_
    · rw [e4]
      show upd s3.wl (L.nd i) (s3.wl (L.nd i) ++ [i]) j = _
      rw [h.wl]
      rfl
    · rw [e4]
      show upd s3.pos i (s3.wl (L.nd i)).length x = _
      rw [h.pos, h.wl]
      unfold upd
      split <;> rfl
    · rw [e4]
      exact h.nl
    · rw [e4]
      exact h.rest.1
    · rw [e4]
      exact h.rest.2.1
    · rw [e4]
      show s3.wt x = _
      rw [h.wt]
      unfold upd
      split <;> rfl
    · rw [e4]
      show (if k = L.id i then some kb else s3.m k) = _
      rw [h.rest.2.2.1]
    · rw [e4]
      show (if (s3.m (L.id i)).isSome then s3.sz else s3.sz + 1) = _
      rw [h.rest.2.2.1, h.rest.2.2.2]
  · refine on.obj ?_ (by simpa using hWN)
    rw [heap_setCell_same w5 WS i _ 46 _ ws5, ← wsr_set hin]
    simp
  · rw [heap_setCell_same _ NO i _ 3 _ (og.obj no5 (by simpa using fun e => hWN e.symm)), ← nor_set hin]
    simp
  · exact lo4
  · exact out5.then ho (fun x hx => .inr (by simp at hx; rcases hx with e | e <;> omega))


end Go.Proofs.Ybulkdukm
