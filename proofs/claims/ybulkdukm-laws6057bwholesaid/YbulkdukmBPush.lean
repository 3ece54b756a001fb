/-
  A REQUEST MORE: THE STEPS OF THE LAW's SECOND LOOP (law B).
-/
import Derived.Test.YbulkdukmBPart
import Derived.Test.YbulkdukmCPlain
namespace Go.Proofs.Ybulkdukm
open Go.RowKit
set_option linter.unusedVariables false

/-- The layout with n requests, at K and T. -/
def Lay.at (L : Lay) (n : Nat) (K T : Nat → Nat) : Lay := { L with n := n, K := K, T := T }

theorem map_eW_congr {K K' : Nat → Nat} {l : List Nat} (h : ∀ x ∈ l, K' x = K x) : l.map (eW K') = l.map (eW K) := by
  apply List.map_congr_left
  intro x hx
  simp [eW, h x hx]

/-- A transaction and a waiter are made. -/
theorem Sys.push {w : World} {L : Lay} {n : Nat} {K T : Nat → Nat} {s : Sta} (h : Sys w (L.at n K T) s) (hw : ∀ j, j < L.nk → ∀ x ∈ s.wl j, x < n) (hn0 : L.nd n < L.nk) :
    Sys ((w.alloc (.cells (tcells (L.id n) (.pointer none)) 94)).alloc (.cells (wcells w.heap.size (L.Nb (L.nd n)) 0) 99)) (L.at (n + 1) (upd K n (w.heap.size + 1)) (upd T n w.heap.size)) { s with pos := upd s.pos n 0, wt := upd s.wt n false } := by
  have ho : Outside [] w ((w.alloc (.cells (tcells (L.id n) (.pointer none)) 94)).alloc (.cells (wcells w.heap.size (L.Nb (L.nd n)) 0) 99)) := ((Outside.refl [] w).alloc _).alloc _
  have hs := h.outside ho (Clear.nil _ _)
  have hT : ((w.alloc (.cells (tcells (L.id n) (.pointer none)) 94)).alloc (.cells (wcells w.heap.size (L.Nb (L.nd n)) 0) 99)).heap[w.heap.size]? = some (.cells (tcells (L.id n) (.pointer none)) 94 (0, 0)) := ((Outside.refl [] _).alloc _).obj (heap_alloc_new w _) (by simp)
  have hK : ((w.alloc (.cells (tcells (L.id n) (.pointer none)) 94)).alloc (.cells (wcells w.heap.size (L.Nb (L.nd n)) 0) 99)).heap[w.heap.size + 1]? = some (.cells (wcells w.heap.size (L.Nb (L.nd n)) 0) 99 (0, 0)) := by
    have e := heap_alloc_new (w.alloc (.cells (tcells (L.id n) (.pointer none)) 94)) (.cells (wcells w.heap.size (L.Nb (L.nd n)) 0) 99)
    rw [World.size_alloc] at e
    exact e
  have kl : ∀ i, i < n → K i < w.heap.size := fun i hi => lt_of_block (h.ks.k i hi)
  have tl : ∀ i, i < n → T i < w.heap.size := fun i hi => lt_of_block (h.ts.t i hi)
  refine ⟨hs.ns, ⟨hs.qs.q, fun j hj => ?_, hs.qs.o, hs.qs.inj⟩, hs.gs, hs.mp, ⟨fun i hi => ?_, fun i i' hi hi' e => ?_⟩, ⟨fun i hi => ?_, fun i i' hi hi' e => ?_⟩⟩
  · have e := hs.qs.s j hj
    have e2 : (s.wl j).map (eW (upd K n (w.heap.size + 1))) = (s.wl j).map (eW K) := map_eW_congr (fun x hx => upd_ne K _ (by have := hw j hj x hx; omega))
    show Slc _ 106 2 _ _ _ (ents ((s.wl j).map (eW (upd K n (w.heap.size + 1)))))
    rw [e2]
    exact e
  · show _ = some (Obj.cells (wcells (upd T n w.heap.size i) (L.Nb (L.nd i)) (upd s.pos n 0 i)) 99 (0, 0))
    by_cases hin : i = n
    · subst hin
      show _[upd K i (w.heap.size + 1) i]? = _
      rw [upd_same, upd_same, upd_same]
      exact hK
    · show _[upd K n (w.heap.size + 1) i]? = _
      rw [upd_ne _ _ hin, upd_ne _ _ hin, upd_ne _ _ hin]
      exact hs.ks.k i (by show i < n; have : i < n + 1 := hi; omega)
  · have hi1 : i < n + 1 := hi
    have hi2 : i' < n + 1 := hi'
    have e' : upd K n (w.heap.size + 1) i = upd K n (w.heap.size + 1) i' := e
    by_cases h1 : i = n
    · by_cases h2 : i' = n
      · omega
      · rw [h1, upd_same, upd_ne _ _ h2] at e'
        have := kl i' (by omega)
        omega
    · by_cases h2 : i' = n
      · rw [h2, upd_same, upd_ne _ _ h1] at e'
        have := kl i (by omega)
        omega
      · rw [upd_ne _ _ h1, upd_ne _ _ h2] at e'
        exact h.ks.inj i i' (by show i < n; omega) (by show i' < n; omega) e'
  · show _ = some (Obj.cells (tcells (L.id i) (if upd s.wt n false i then pv (upd K n (w.heap.size + 1) i) else .pointer none)) 94 (0, 0))
    by_cases hin : i = n
    · subst hin
      show _[upd T i w.heap.size i]? = _
      rw [upd_same, upd_same]
      exact hT
    · show _[upd T n w.heap.size i]? = _
      rw [upd_ne _ _ hin, upd_ne _ _ hin, upd_ne _ _ hin]
      exact hs.ts.t i (by show i < n; have : i < n + 1 := hi; omega)
  · have hi1 : i < n + 1 := hi
    have hi2 : i' < n + 1 := hi'
    have e' : upd T n w.heap.size i = upd T n w.heap.size i' := e
    by_cases h1 : i = n
    · by_cases h2 : i' = n
      · omega
      · rw [h1, upd_same, upd_ne _ _ h2] at e'
        have := tl i' (by omega)
        omega
    · by_cases h2 : i' = n
      · rw [h2, upd_same, upd_ne _ _ h1] at e'
        have := tl i (by omega)
        omega
      · rw [upd_ne _ _ h1, upd_ne _ _ h2] at e'
        exact h.ts.inj i i' (by show i < n; omega) (by show i' < n; omega) e'

section
variable {w w' : World} {L : Lay} {s : Sta}

/-- The node joins the graph's nodes. -/
theorem addN_step (h : Sys w L s) {j : Nat} (hj : j < L.nk) (hlen : s.nl.length ≤ 200000) :
    Calls Yba.prog 13 #[.pointer (some ⟨L.GB, 5, none⟩), .pointer (some ⟨L.Nb j, 0, none⟩), .pointer (some ⟨L.Qb j, 41, none⟩)] w fun e w' => e = .returned (.tuple #[]) ∧ ∃ ao' cp', Sys w' L { s with nl := s.nl ++ [j], aoN := ao', cpN := cp', qa := upd s.qa j s.nl.length } ∧ Fr L s w w' ∧ ∀ g ∈ ownB ao' cp', g ∈ ownB s.aoN s.cpN ∨ w.heap.size ≤ g := by
  have hle : (s.nl.map (eN L.Nb L.Qb)).length = s.nl.length := by simp
  refine (add_n L.GB 5 (L.Qb j) 41 (L.Nb j) s.nl.length s.cpN s.aoN (ents (s.nl.map (eN L.Nb L.Qb))) _ _ 77 60 _ w h.gs.g (h.qs.q j hj) (ne_tag h.gs.g (h.qs.q j hj) (by decide)) rfl rfl h.gs.s (by decide) (by decide) hlen).mono fun e w' ⟨he, ao', cp', hA⟩ => ⟨he, ao', cp', ?_⟩
  have hS : ∀ x ∈ (L.GB :: L.Qb j :: ownB s.aoN s.cpN), x = L.GB ∨ x ∈ ownB s.aoN s.cpN ∨ ∃ j, j < L.nk ∧ x = L.Qb j := fun x hx => by
    simp only [List.mem_cons] at hx
    rcases hx with e | e | e
    · exact .inl e
    · exact .inr (.inr ⟨j, hj, e⟩)
    · exact .inr (.inl e)
  have hl := hA.list
  have ha := hA.at_
  rw [gcells_5] at hl
  rw [qcells_41] at ha
  have k := h.setN (l := s.nl ++ [j]) (a' := ao') (c' := cp') _ hA.out hS (by simpa using hl) (by
    have e := hA.slc
    rw [show ent (L.Nb j) (L.Qb j) 41 = ent (eN L.Nb L.Qb j).1 (eN L.Nb L.Qb j).2.1 (eN L.Nb L.Qb j).2.2 from rfl, ents_snoc] at e
    simpa using e)
    (h.qs.setAt hA.out hj ha (fun x hx hxj => by
      simp only [List.mem_cons, not_or]
      exact ⟨ne_tag (h.qs.q x hx) h.gs.g (by decide), fun e => hxj (h.qs.inj x j hx hj e), h.qb_on hx⟩)
      (fun x hx g hg => by
      simp only [List.mem_cons, not_or]
      exact ⟨by rintro rfl; exact h.gb_own hx hg, by rintro rfl; exact h.qb_own hj hx hg, h.own_on hx g hg⟩))
  exact ⟨k, ⟨_, hA.out, fun x hx => by
    rcases hS x hx with e | e | ⟨y, hy, e⟩
    · exact .inl e
    · exact .inr (.inr (.inr (.inr (.inl e))))
    · exact .inr (.inr (.inl ⟨y, hy, e⟩))⟩, hA.own⟩

/-- The request joins its node's waiters. -/
theorem addW_step (h : Sys w L s) {i : Nat} (hi : i < L.n) (hj : L.nd i < L.nk) (hlen : (s.wl (L.nd i)).length ≤ 200000) :
    Calls Yba.prog 14 #[.pointer (some ⟨L.Qb (L.nd i), 40, none⟩), .pointer (some ⟨L.K i, 0, none⟩), .pointer (some ⟨L.K i, 9, none⟩)] w fun e w' => e = .returned (.tuple #[]) ∧ ∃ ao' cp', Sys w' L { s with wl := upd s.wl (L.nd i) (s.wl (L.nd i) ++ [i]), ao := upd s.ao (L.nd i) ao', cp := upd s.cp (L.nd i) cp', pos := upd s.pos i (s.wl (L.nd i)).length } ∧ Fr L s w w' ∧ ∀ g ∈ ownB ao' cp', g ∈ ownB (s.ao (L.nd i)) (s.cp (L.nd i)) ∨ w.heap.size ≤ g := by
  have hq := h.qs.q _ hj
  refine (add_w (L.Qb (L.nd i)) 40 (L.K i) 9 (L.K i) (s.wl (L.nd i)).length (s.cp (L.nd i)) (s.ao (L.nd i)) (ents ((s.wl (L.nd i)).map (eW L.K))) _ _ 60 99 _ w hq (h.ks.k i hi) (ne_tag hq (h.ks.k i hi) (by decide)) rfl rfl (h.qs.s _ hj) (by decide) (by decide) hlen).mono fun e w' ⟨he, ao', cp', hA⟩ => ⟨he, ao', cp', ?_⟩
  have hS : ∀ x ∈ (L.Qb (L.nd i) :: L.K i :: ownB (s.ao (L.nd i)) (s.cp (L.nd i))), x = L.Qb (L.nd i) ∨ x ∈ ownB (s.ao (L.nd i)) (s.cp (L.nd i)) ∨ ∃ i, i < L.n ∧ x = L.K i := fun x hx => by
    simp only [List.mem_cons] at hx
    rcases hx with e | e | e
    · exact .inl e
    · exact .inr (.inr ⟨i, hi, e⟩)
    · exact .inr (.inl e)
  have hl := hA.list
  have ha := hA.at_
  rw [qcells_40] at hl
  rw [wcells_9] at ha
  have k := h.setQ hj (l := s.wl (L.nd i) ++ [i]) (a' := ao') (c' := cp') _ hA.out hS (by simpa using hl) (by
    have e := hA.slc
    rw [show ent (L.K i) (L.K i) 9 = ent (eW L.K i).1 (eW L.K i).2.1 (eW L.K i).2.2 from rfl, ents_snoc] at e
    simpa using e) hA.own
    (h.ks.setPos hA.out hi ha (fun x hx hxi => by
      simp only [List.mem_cons, not_or]
      exact ⟨ne_tag (h.ks.k x hx) hq (by decide), fun e => hxi (h.ks.inj x i hx hi e), h.k_own hx hj⟩))
  exact ⟨k, ⟨_, hA.out, fun x hx => by
    rcases hS x hx with e | e | ⟨y, hy, e⟩
    · exact .inr (.inr (.inl ⟨_, hj, e⟩))
    · exact .inr (.inr (.inr (.inl ⟨_, hj, e⟩)))
    · exact .inr (.inr (.inr (.inr (.inr ⟨y, hy, .inl e⟩))))⟩, hA.own⟩

theorem Sys.putM (h : Sys w L s) {k : Nat} (hk : k < 2 ^ 64) (b : Nat) (hm : s.sz < maxLen) : ∃ w', (Instr.mapUpdate 66 (.map (some L.MB)) (.int .u64 (k : Int)) (.pointer (some ⟨b, 0, none⟩))).run Yba.prog w = .ok () w' ∧ Sys w' L { s with m := fun x => if x = k then some b else s.m x, sz := if (s.m k).isSome then s.sz else s.sz + 1 } ∧ Fr L s w w' := by
  obtain ⟨w', h1, h2, h3⟩ := h.mp.put hk b hm
  exact ⟨w', h1, h.setM h2 h3, _, h3, fun x hx => .inr (.inl (by simpa using hx))⟩
end

end Go.Proofs.Ybulkdukm
