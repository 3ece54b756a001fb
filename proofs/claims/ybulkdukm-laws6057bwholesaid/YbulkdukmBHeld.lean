/-
  THE PLAIN STATE BEHIND 'stopWaiting' (law B).
-/
import Derived.Test.YbulkdukmBWb
namespace Go.Proofs.Ybulkdukm
open Go.RowKit
set_option linter.unusedVariables false

theorem wlOf_pos {nd : Nat → Nat} {j i q x : Nat} (h : (wlOf nd j i)[q]? = some x) : q = (wlOf nd j x).length := by
  induction i with
  | zero => simp [wlOf, idx] at h
  | succ i ih =>
    by_cases hj : j = nd i
    · subst hj
      rw [wlOf_same] at h
      by_cases hq : q < (wlOf nd (nd i) i).length
      · rw [List.getElem?_append_left hq] at h
        exact ih h
      · have hl := (List.getElem?_eq_some_iff.1 h).1
        simp at hl
        obtain rfl : q = (wlOf nd (nd i) i).length := by omega
        simp at h
        rw [h]
    · rw [wlOf_other hj] at h
      exact ih h
theorem wlOf_mono {nd : Nat → Nat} {j i : Nat} (h : wlOf nd j i ≠ []) : wlOf nd j (i + 1) ≠ [] := by
  by_cases hj : j = nd i
  · rw [hj, wlOf_same]
    simp
  · rw [wlOf_other hj]
    exact h
theorem nlOf_has {nd : Nat → Nat} {i j : Nat} (h : j ∈ nlOf nd i) : wlOf nd j i ≠ [] := by
  induction i with
  | zero => cases h
  | succ i ih =>
    unfold nlOf at h
    split at h
    · rcases List.mem_append.1 h with h1 | h1
      · exact wlOf_mono (ih h1)
      · simp at h1
        rw [h1, wlOf_same]
        simp
    · exact wlOf_mono (ih h)
theorem nlOf_once {nd : Nat → Nat} {i q q' x : Nat} (h : (nlOf nd i)[q]? = some x) (h' : (nlOf nd i)[q']? = some x) : q = q' := by
  induction i with
  | zero => simp [nlOf] at h
  | succ i ih =>
    unfold nlOf at h h'
    split at h
    · rename_i he
      rw [if_pos he] at h'
      have l1 := (List.getElem?_eq_some_iff.1 h).1
      have l2 := (List.getElem?_eq_some_iff.1 h').1
      simp at l1 l2
      by_cases c1 : q < (nlOf nd i).length
      · rw [List.getElem?_append_left c1] at h
        by_cases c2 : q' < (nlOf nd i).length
        · rw [List.getElem?_append_left c2] at h'
          exact ih h h'
        · obtain rfl : q' = (nlOf nd i).length := by omega
          simp at h'
          exact absurd he (h' ▸ nlOf_has (List.mem_of_getElem? h))
      · obtain rfl : q = (nlOf nd i).length := by omega
        simp at h
        by_cases c2 : q' < (nlOf nd i).length
        · rw [List.getElem?_append_left c2] at h'
          exact absurd he (h ▸ nlOf_has (List.mem_of_getElem? h'))
        · omega
    · rename_i he
      rw [if_neg he] at h'
      exact ih h h'
theorem dc_pos (id : Nat → Nat) {n : Nat} (h : 0 < n) : 0 < dc id n := by
  induction n with
  | zero => omega
  | succ n ih =>
    unfold dc
    split
    · rename_i hs
      cases n with
      | zero => simp [la] at hs
      | succ n => exact ih (by omega)
    · omega

/-- Places of a list behind 'remove'. -/
theorem rmv_places {l : List Nat} {f : Nat → Nat} {p : Nat} (hf : ∀ (q x : Nat), l[q]? = some x → f x = q) (hp : p < l.length) {q x : Nat} (h : (rmv l p 0)[q]? = some x) :
    (if p = l.length - 1 then f else upd f (l.getD (l.length - 1) 0) p) x = q := by
  have hq := (List.getElem?_eq_some_iff.1 h).1
  rw [rmv_len] at hq
  rw [rmv_get hq] at h
  have hl : l[l.length - 1]? = some (l.getD (l.length - 1) 0) := by
    rw [List.getElem?_eq_getElem (by omega)]
    simp [List.getD, List.getElem?_eq_getElem (show l.length - 1 < l.length by omega)]
  by_cases hqp : q = p
  · subst hqp
    rw [if_pos rfl, hl] at h
    cases h
    rw [if_neg (by omega), upd_same]
  · rw [if_neg hqp] at h
    by_cases hpl : p = l.length - 1
    · rw [if_pos hpl]
      exact hf q x h
    · rw [if_neg hpl, upd_ne]
      · exact hf q x h
      · rintro rfl
        have e1 := hf _ _ h
        have e2 := hf _ _ hl
        omega
theorem rmv_mem {l : List Nat} {p x : Nat} (hx : x ∈ rmv l p 0) : x ∈ l := by
  obtain ⟨q, hq⟩ := List.getElem?_of_mem hx
  have hl := (List.getElem?_eq_some_iff.1 hq).1
  rw [rmv_len] at hl
  rw [rmv_get hl] at hq
  split at hq
  · exact List.mem_of_getElem? hq
  · exact List.mem_of_getElem? hq
theorem keep_at {f : Nat → Nat} {l p x : Nat} (b : Prop) [Decidable b] (h : f x = p) : (if b then f else upd f l p) x = f x := by
  split
  · rfl
  · unfold upd
    split
    · exact h.symm
    · rfl

/-- Behind 'stopWaiting' of request t. -/
structure Held (L : Lay) (q : Int) (t ti p : Nat) (s s' : Sta) : Prop where
  wl : ∀ j, j ≠ L.nd t → s'.wl j = s.wl j
  len : ∀ j, j < L.nk → (s'.wl j).length ≤ L.n
  lenN : s'.nl.length ≤ L.n
  mem : ∀ j, j < L.nk → ∀ x ∈ s'.wl j, x < L.n
  memN : ∀ x ∈ s'.nl, x < L.nk
  pos : ∀ j, j < L.nk → ∀ (q x : Nat), (s'.wl j)[q]? = some x → s'.pos x = q
  posN : ∀ (q x : Nat), s'.nl[q]? = some x → s'.qa x = q
  ti : s'.pos t = ti
  p : s'.qa (L.nd t) = p
  wt : ∀ x, x < L.n → s'.wt x = decide (x ≠ t)
  m : ∀ k, s'.m k = if k = L.id t then none else (la (fun x => L.id x == k) L.n).map L.K
  sz : s'.sz = dc L.id L.n - 1
  mu : s'.mu = 0
  que : s'.que = wrap64 (q - 1)

theorem stopS_wl (L : Lay) (s : Sta) (t : Nat) : (stopS L s t).wl = upd s.wl (L.nd t) (rmv (s.wl (L.nd t)) (s.pos t) 0) := by
  unfold stopS
  split <;> rfl
theorem stopS_pos (L : Lay) (s : Sta) (t : Nat) : (stopS L s t).pos = if s.pos t = (s.wl (L.nd t)).length - 1 then s.pos else upd s.pos ((s.wl (L.nd t)).getD ((s.wl (L.nd t)).length - 1) 0) (s.pos t) := by
  unfold stopS
  split <;> rfl
theorem stopS_nl (L : Lay) (s : Sta) (t : Nat) : (stopS L s t).nl = if (s.wl (L.nd t)).length = 1 then rmv s.nl (s.qa (L.nd t)) 0 else s.nl := by
  unfold stopS
  split <;> rfl
theorem stopS_qa (L : Lay) (s : Sta) (t : Nat) : (stopS L s t).qa = if (s.wl (L.nd t)).length = 1 then (if s.qa (L.nd t) = s.nl.length - 1 then s.qa else upd s.qa (s.nl.getD (s.nl.length - 1) 0) (s.qa (L.nd t))) else s.qa := by
  unfold stopS
  split <;> rfl

theorem Built.places {L : Lay} {q : Int} {K : Nat → Nat} {n : Nat} {s : Sta} (h : Built L q n K s) {j : Nat} (hj : j < L.nk) (k x : Nat) (hx : (s.wl j)[k]? = some x) : s.pos x = k := by
  rw [h.wl j hj] at hx
  obtain ⟨h1, h2⟩ := wlOf_lt (List.mem_of_getElem? hx)
  rw [h.pos x h1, h2]
  exact (wlOf_pos hx).symm
theorem Built.placesN {L : Lay} {q : Int} {K : Nat → Nat} {n : Nat} {s : Sta} (h : Built L q n K s) (hnd : ∀ x, L.nd x < L.nk) (k x : Nat) (hx : s.nl[k]? = some x) : s.qa x = k := by
  have hx' := hx
  rw [h.nl] at hx'
  have hm := List.mem_of_getElem? hx'
  have hq := h.qa x (nlOf_mem hnd x hm) (nlOf_has hm)
  rw [h.nl] at hq
  exact nlOf_once hq hx'
/-- What 'stopWaiting' wants. -/
theorem Built.at {L : Lay} {q : Int} {K : Nat → Nat} {n : Nat} {s : Sta} (h : Built L q n K s) (hnd : ∀ x, L.nd x < L.nk) {t : Nat} (ht : t < n) : (s.wl (L.nd t))[s.pos t]? = some t ∧ s.nl[s.qa (L.nd t)]? = some (L.nd t) := by
  have h1 : (s.wl (L.nd t))[s.pos t]? = some t := by
    rw [h.wl _ (hnd t), h.pos t ht]
    exact wlOf_at ht
  refine ⟨h1, h.qa _ (hnd t) (fun e => ?_)⟩
  rw [h.wl _ (hnd t), e] at h1
  simp at h1

theorem Built.held {L : Lay} {q : Int} {s : Sta} (h : Built L q L.n L.K s) (hnd : ∀ x, L.nd x < L.nk) {t : Nat} (ht : t < L.n) : Held L q t (s.pos t) (s.qa (L.nd t)) s (stopS L s t) := by
  obtain ⟨h1, h2⟩ := h.at hnd ht
  have hp := (List.getElem?_eq_some_iff.1 h1).1
  have hpN := (List.getElem?_eq_some_iff.1 h2).1
  have hlen : ∀ j, j < L.nk → (s.wl j).length ≤ L.n := fun j hj => by rw [h.wl j hj]; exact wlOf_len _ _ _
  have hmem : ∀ j, j < L.nk → ∀ x ∈ s.wl j, x < L.n := fun j hj x hx => by rw [h.wl j hj] at hx; exact (wlOf_lt hx).1
  have hlenN : s.nl.length ≤ L.n := by rw [h.nl]; exact nlOf_len _ _
  have hmemN : ∀ x ∈ s.nl, x < L.nk := fun x hx => by rw [h.nl] at hx; exact nlOf_mem hnd x hx
  refine ⟨fun j hj => ?_, fun j hj => ?_, ?_, fun j hj x hx => ?_, fun x hx => ?_, fun j hj k x hx => ?_, fun k x hx => ?_, ?_, ?_, fun x hx => ?_, fun k => ?_, ?_, ?_, ?_⟩
  · rw [stopS_wl, upd_ne _ _ hj]
  · rw [stopS_wl]
    by_cases e : j = L.nd t
    · rw [e, upd_same, rmv_len]
      have := hlen _ (hnd t)
      omega
    · rw [upd_ne _ _ e]
      exact hlen j hj
  · rw [stopS_nl]
    split
    · rw [rmv_len]; omega
    · exact hlenN
  · rw [stopS_wl] at hx
    by_cases e : j = L.nd t
    · rw [e, upd_same] at hx
      exact hmem _ (hnd t) x (rmv_mem hx)
    · rw [upd_ne _ _ e] at hx
      exact hmem j hj x hx
  · rw [stopS_nl] at hx
    split at hx
    · exact hmemN x (rmv_mem hx)
    · exact hmemN x hx
  · rw [stopS_wl] at hx
    rw [stopS_pos]
    by_cases e : j = L.nd t
    · rw [e, upd_same] at hx
      exact rmv_places (h.places (hnd t)) hp hx
    · rw [upd_ne _ _ e] at hx
      have k0 := h.places hj k x hx
      split
      · exact k0
      · rw [upd_ne]
        · exact k0
        · intro ex
          have l1 : (s.wl (L.nd t)).length - 1 < (s.wl (L.nd t)).length := by omega
          have em : x ∈ s.wl (L.nd t) := by
            rw [ex]
            simp [List.getD, List.getElem?_eq_getElem l1]
          rw [h.wl _ (hnd t)] at em
          have em2 := List.mem_of_getElem? hx
          rw [h.wl j hj] at em2
          exact e ((wlOf_lt em2).2.symm.trans (wlOf_lt em).2)
  · rw [stopS_nl] at hx
    rw [stopS_qa]
    split at hx
    · rename_i e
      rw [if_pos e]
      exact rmv_places (h.placesN hnd) hpN hx
    · rename_i e
      rw [if_neg e]
      exact h.placesN hnd k x hx
  · rw [stopS_pos]
    exact keep_at _ rfl
  · rw [stopS_qa]
    split
    · exact keep_at _ rfl
    · rfl
  · have e : (stopS L s t).wt = upd s.wt t false := by unfold stopS; split <;> rfl
    rw [e]
    by_cases hxt : x = t
    · rw [hxt, upd_same]
      simp
    · rw [upd_ne _ _ hxt, h.wt x hx]
      simp [hxt]
  · have e : (stopS L s t).m = fun x => if x = L.id t then none else s.m x := by unfold stopS; split <;> rfl
    rw [e]
    dsimp only
    rw [h.m k]
  · have e : (stopS L s t).sz = s.sz - 1 := by unfold stopS; split <;> rfl
    rw [e, h.sz]
  · unfold stopS
    split <;> rfl
  · have e : (stopS L s t).que = wrap64 (s.que - 1) := by unfold stopS; split <;> rfl
    rw [e, h.que]

/-- Behind 'stopWaiting': what the law's tests read. -/
structure S5 (w : World) (L : Lay) (ND WS WB tj lW lN : Nat) (g : Nat → List Nat) (a : Nat → Option Addr) (c : Nat → Nat) (G : List Nat) (aN : Option Addr) (cN : Nat) (aE aF : Option Addr) (cE cF : Nat) (s' : Sta) : Prop where
  sys : Sys w L s'
  nds : w.heap[ND]? = some (.cells (ndr L).toArray 44 (0, 0))
  ws : w.heap[WS]? = some (.cells (wsr L.K L.n L.n).toArray 46 (0, 0))
  kb : KB w L.nk WB g a c G aN cN
  hg : ∀ y, y ≠ tj → g y = (s'.wl y).map L.K
  ew : Slc w 46 1 aE lW cE (pvs ((s'.wl tj).map L.K))
  hW : lW = (s'.wl tj).length
  en : Slc w 44 1 aF lN cF (pvs (s'.nl.map L.Nb))
  hN : lN = s'.nl.length
theorem S5.outside {w w' : World} {L : Lay} {ND WS WB tj lW lN : Nat} {g : Nat → List Nat} {a : Nat → Option Addr} {c : Nat → Nat} {G : List Nat} {aN : Option Addr} {cN : Nat} {aE aF : Option Addr} {cE cF : Nat} {s' : Sta} (h : S5 w L ND WS WB tj lW lN g a c G aN cN aE aF cE cF s') (ho : Outside [] w w') : S5 w' L ND WS WB tj lW lN g a c G aN cN aE aF cE cF s' :=
  ⟨h.sys.outside ho (Clear.nil _ _), ho.obj h.nds (by simp), ho.obj h.ws (by simp), h.kb.outside ho, h.hg, h.ew.outside ho (by simp), h.hW, h.en.outside ho (by simp), h.hN⟩
theorem S5.nds_cell {w : World} {L : Lay} {ND WS WB tj lW lN : Nat} {g : Nat → List Nat} {a : Nat → Option Addr} {c : Nat → Nat} {G : List Nat} {aN : Option Addr} {cN : Nat} {aE aF : Option Addr} {cE cF : Nat} {s' : Sta} (h : S5 w L ND WS WB tj lW lN g a c G aN cN aE aF cE cF s') {j : Nat} (hj : j < L.nk) : w.cell? ⟨ND, j, none⟩ = some (.pointer (some ⟨L.Nb j, 0, none⟩)) := by
  rw [cell_of_row w _ _ _ 44 (0, 0) h.nds]
  simp [ndr, hj, pv]
theorem S5.ws_cell {w : World} {L : Lay} {ND WS WB tj lW lN : Nat} {g : Nat → List Nat} {a : Nat → Option Addr} {c : Nat → Nat} {G : List Nat} {aN : Option Addr} {cN : Nat} {aE aF : Option Addr} {cE cF : Nat} {s' : Sta} (h : S5 w L ND WS WB tj lW lN g a c G aN cN aE aF cE cF s') {i : Nat} (hi : i < L.n) : w.cell? ⟨WS, i, none⟩ = some (.pointer (some ⟨L.K i, 0, none⟩)) := by
  rw [cell_of_row w _ _ _ 46 (0, 0) h.ws]
  simp [wsr, hi, pv]
/-- 'stopWaiting' has gone by. -/
theorem S3.stopped {w w' : World} {L : Lay} {q : Int} {ND WS NO WB t lW lN : Nat} {s s' : Sta} {a : Nat → Option Addr} {c : Nat → Nat} {G : List Nat} {aN : Option Addr} {cN : Nat} {aE aF : Option Addr} {cE cF : Nat} (h : S3 w L q ND WS NO s) (hk : KB w L.nk WB (fun y => (s.wl y).map L.K) a c G aN cN) (hs : Sys w' L s') (hf : Fr L s w w') (hw : ∀ j, j ≠ L.nd t → s'.wl j = s.wl j)
    (ew : Slc w 46 1 aE lW cE (pvs ((s'.wl (L.nd t)).map L.K))) (hW : lW = (s'.wl (L.nd t)).length) (en : Slc w 44 1 aF lN cF (pvs (s'.nl.map L.Nb))) (hN : lN = s'.nl.length) :
    S5 w' L ND WS WB (L.nd t) lW lN (fun y => (s.wl y).map L.K) a c G aN cN aE aF cE cF s' :=
  ⟨hs, hf.obj h.sys h.nds (by decide), hf.obj h.sys h.ws (by decide), hk.fr hf h.sys, fun y hy => by rw [hw y hy], hf.slc h.sys ew (by decide), hW, hf.slc h.sys en (by decide), hN⟩

end Go.Proofs.Ybulkdukm
