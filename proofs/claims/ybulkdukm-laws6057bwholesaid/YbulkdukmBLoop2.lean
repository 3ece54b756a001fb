/-
  WHAT THE LAW's SECOND LOOP KNOWS (law B).
-/
import Derived.Test.YbulkdukmBBuilt
namespace Go.Proofs.Ybulkdukm
open Go.RowKit
set_option linter.unusedVariables false

/-- All of the graph lies from b0 on. -/
def Lo (b0 : Nat) (L : Lay) (s : Sta) : Prop := ∀ x, SysB L s x → b0 ≤ x
theorem Fr.lo {b0 : Nat} {L : Lay} {s : Sta} {w0 w w' : World} (h : Fr L s w w') (hl : Lo w0.heap.size L s) (ho : Outside [] w0 w) : Outside [] w0 w' := by
  obtain ⟨S, h1, h2⟩ := h
  exact ho.then h1 (fun x hx => .inr (hl x (h2 x hx)))
theorem Lo.addN {b0 c0 : Nat} {L : Lay} {s : Sta} {nl : List Nat} {a' : Option Addr} {c' : Nat} {qa : Nat → Nat} (h : Lo b0 L s) (hb : b0 ≤ c0) (ho : ∀ g ∈ ownB a' c', g ∈ ownB s.aoN s.cpN ∨ c0 ≤ g) : Lo b0 L { s with nl := nl, aoN := a', cpN := c', qa := qa } := by
  intro x hx
  rcases hx with e | e | e | e | e | e
  · exact h x (.inl e)
  · exact h x (.inr (.inl e))
  · exact h x (.inr (.inr (.inl e)))
  · exact h x (.inr (.inr (.inr (.inl e))))
  · rcases ho x e with e1 | e1
    · exact h x (.inr (.inr (.inr (.inr (.inl e1)))))
    · omega
  · exact h x (.inr (.inr (.inr (.inr (.inr e)))))
theorem Lo.addW {b0 c0 : Nat} {L : Lay} {s : Sta} {wl : Nat → List Nat} {j : Nat} {a' : Option Addr} {c' : Nat} {pos : Nat → Nat} (hj : j < L.nk) (h : Lo b0 L s) (hb : b0 ≤ c0) (ho : ∀ g ∈ ownB a' c', g ∈ ownB (s.ao j) (s.cp j) ∨ c0 ≤ g) : Lo b0 L { s with wl := wl, ao := upd s.ao j a', cp := upd s.cp j c', pos := pos } := by
  intro x hx
  rcases hx with e | e | e | ⟨y, hy, e⟩ | e | e
  · exact h x (.inl e)
  · exact h x (.inr (.inl e))
  · exact h x (.inr (.inr (.inl e)))
  · have e' : x ∈ ownB (upd s.ao j a' y) (upd s.cp j c' y) := e
    by_cases hyj : y = j
    · subst hyj
      rw [upd_same, upd_same] at e'
      rcases ho x e' with e1 | e1
      · exact h x (.inr (.inr (.inr (.inl ⟨y, hy, e1⟩))))
      · omega
    · rw [upd_ne _ _ hyj, upd_ne _ _ hyj] at e'
      exact h x (.inr (.inr (.inr (.inl ⟨y, hy, e'⟩))))
  · exact h x (.inr (.inr (.inr (.inr (.inl e)))))
  · exact h x (.inr (.inr (.inr (.inr (.inr e)))))
theorem Lo.push {b0 n kb tb : Nat} {L : Lay} {K T : Nat → Nat} {s : Sta} {pos : Nat → Nat} {wt : Nat → Bool} (h : Lo b0 (L.at n K T) s) (hk : b0 ≤ kb) (ht : b0 ≤ tb) : Lo b0 (L.at (n + 1) (upd K n kb) (upd T n tb)) { s with pos := pos, wt := wt } := by
  intro x hx
  rcases hx with e | e | e | e | e | ⟨y, hy, e⟩
  · exact h x (.inl e)
  · exact h x (.inr (.inl e))
  · exact h x (.inr (.inr (.inl e)))
  · exact h x (.inr (.inr (.inr (.inl e))))
  · exact h x (.inr (.inr (.inr (.inr (.inl e)))))
  · have hy' : y < n + 1 := hy
    have e' : x = upd K n kb y ∨ x = upd T n tb y := e
    by_cases hyn : y = n
    · rw [hyn, upd_same, upd_same] at e'
      rcases e' with e1 | e1 <;> omega
    · rw [upd_ne _ _ hyn, upd_ne _ _ hyn] at e'
      exact h x (.inr (.inr (.inr (.inr (.inr ⟨y, by show y < n; omega, e'⟩)))))

def ndr (L : Lay) : List Value := (List.range L.nk).map fun j => pv (L.Nb j)
def wsr (K : Nat → Nat) (n i : Nat) : List Value := (List.range n).map fun x => if x < i then pv (K x) else .pointer none
def nor (nd : Nat → Nat) (n i : Nat) : List Value := (List.range n).map fun x => .int .i64 (if x < i then (nd x : Int) else 0)
theorem row_set {α : Type} {f g : Nat → α} {n i : Nat} {v : α} (h : i < n) (h1 : g i = v) (h2 : ∀ x, x ≠ i → g x = f x) : ((List.range n).map f).set i v = (List.range n).map g := by
  apply List.ext_getElem?
  intro c
  rw [List.getElem?_set, List.getElem?_map, List.getElem?_map]
  by_cases hc : i = c
  · subst hc
    simp [h, h1]
  · rw [if_neg hc]
    by_cases h9 : c < n
    · simp only [List.getElem?_range h9, Option.map_some]
      rw [h2 c (fun e => hc e.symm)]
    · rw [List.getElem?_eq_none (by simp; omega)]
      rfl
theorem wsr_set {K : Nat → Nat} {n i b : Nat} (h : i < n) : (wsr K n i).set i (pv b) = wsr (upd K i b) n (i + 1) := by
  unfold wsr
  refine row_set h ?_ (fun x hx => ?_)
  · rw [if_pos (by omega), upd_same]
  · by_cases h1 : x < i
    · rw [if_pos (by omega), if_pos h1, upd_ne _ _ hx]
    · rw [if_neg (by omega), if_neg h1]
theorem nor_set {nd : Nat → Nat} {n i : Nat} (h : i < n) : (nor nd n i).set i (.int .i64 (nd i : Int)) = nor nd n (i + 1) := by
  unfold nor
  refine row_set h ?_ (fun x hx => ?_)
  · rw [if_pos (by omega)]
  · by_cases h1 : x < i
    · rw [if_pos (by omega), if_pos h1]
    · rw [if_neg (by omega), if_neg h1]

/-- Behind i rounds of the second loop. -/
structure L2 (w0 w : World) (L : Lay) (q : Int) (n i ND WS NO : Nat) (K T : Nat → Nat) (s : Sta) : Prop where
  sys : Sys w (L.at i K T) s
  blt : Built L q i K s
  nds : w.heap[ND]? = some (.cells (ndr L).toArray 44 (0, 0))
  ws : w.heap[WS]? = some (.cells (wsr K n i).toArray 46 (0, 0))
  no : w.heap[NO]? = some (.cells (nor L.nd n i).toArray 3 (0, 0))
  lo : Lo w0.heap.size (L.at i K T) s
  out : Outside [] w0 w

end Go.Proofs.Ybulkdukm
