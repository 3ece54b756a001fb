/-
  THE PLAIN STATE BEHIND i REQUESTS (law B).
-/
import Derived.Test.YbulkdukmBPush
namespace Go.Proofs.Ybulkdukm
open Go.RowKit
set_option linter.unusedVariables false

/-- The requests below i on node j. -/
def wlOf (nd : Nat → Nat) (j i : Nat) : List Nat := idx (fun x => nd x == j) 0 i
/-- The nodes in the order in which they come up. -/
def nlOf (nd : Nat → Nat) : Nat → List Nat
  | 0 => []
  | i + 1 => if wlOf nd (nd i) i = [] then nlOf nd i ++ [nd i] else nlOf nd i
/-- How many IDs. -/
def dc (id : Nat → Nat) : Nat → Nat
  | 0 => 0
  | i + 1 => if (la (fun x => id x == id i) i).isSome then dc id i else dc id i + 1

theorem wlOf_same (nd : Nat → Nat) (i : Nat) : wlOf nd (nd i) (i + 1) = wlOf nd (nd i) i ++ [i] := by
  unfold wlOf
  rw [idx_snoc]
  simp
theorem wlOf_other {nd : Nat → Nat} {j i : Nat} (h : j ≠ nd i) : wlOf nd j (i + 1) = wlOf nd j i := by
  unfold wlOf
  rw [idx_snoc]
  have : (nd i == j) = false := by rw [beq_eq_false_iff_ne]; exact fun e => h e.symm
  simp [this]
theorem wlOf_lt {nd : Nat → Nat} {j i x : Nat} (h : x ∈ wlOf nd j i) : x < i ∧ nd x = j := by
  obtain ⟨_, h2, h3⟩ := idx_lt h
  exact ⟨h2, by simpa using h3⟩
theorem wlOf_mem {nd : Nat → Nat} {i x : Nat} (h : x < i) : x ∈ wlOf nd (nd x) i := by
  unfold wlOf idx
  rw [List.mem_filter, List.mem_range'_1]
  exact ⟨by omega, by simp⟩
theorem wlOf_len (nd : Nat → Nat) (j i : Nat) : (wlOf nd j i).length ≤ i := by
  have := List.length_filter_le (fun x => nd x == j) (List.range' 0 (i - 0))
  simp at this
  unfold wlOf idx
  simpa using this
/-- Where request x stands in its node's list. -/
theorem wlOf_at {nd : Nat → Nat} {i x : Nat} (h : x < i) : (wlOf nd (nd x) i)[(wlOf nd (nd x) x).length]? = some x := by
  induction i with
  | zero => omega
  | succ i ih =>
    by_cases hx : x = i
    · subst hx
      rw [wlOf_same]
      simp
    · have hlt : x < i := by omega
      have hi := ih hlt
      by_cases hn : nd x = nd i
      · rw [hn] at hi ⊢
        rw [wlOf_same, List.getElem?_append_left (List.getElem?_eq_some_iff.1 hi).1]
        exact hi
      · rw [wlOf_other hn]
        exact hi
theorem nlOf_mem {nd : Nat → Nat} {nk i : Nat} (hnd : ∀ x, nd x < nk) : ∀ j ∈ nlOf nd i, j < nk := by
  induction i with
  | zero => intro j hj; cases hj
  | succ i ih =>
    intro j hj
    unfold nlOf at hj
    split at hj
    · rcases List.mem_append.1 hj with h | h
      · exact ih j h
      · simp at h; rw [h]; exact hnd i
    · exact ih j hj
theorem nlOf_len (nd : Nat → Nat) (i : Nat) : (nlOf nd i).length ≤ i := by
  induction i with
  | zero => simp [nlOf]
  | succ i ih =>
    unfold nlOf
    split
    · simp; omega
    · omega
theorem dc_le (id : Nat → Nat) (i : Nat) : dc id i ≤ i := by
  induction i with
  | zero => simp [dc]
  | succ i ih => unfold dc; split <;> omega

/-- Behind i requests. -/
structure Built (L : Lay) (q : Int) (i : Nat) (K : Nat → Nat) (s : Sta) : Prop where
  wl : ∀ j, j < L.nk → s.wl j = wlOf L.nd j i
  pos : ∀ x, x < i → s.pos x = (wlOf L.nd (L.nd x) x).length
  nl : s.nl = nlOf L.nd i
  qa : ∀ j, j < L.nk → wlOf L.nd j i ≠ [] → s.nl[s.qa j]? = some j
  mu : s.mu = 0
  que : s.que = q
  wt : ∀ x, x < i → s.wt x = true
  m : ∀ k, s.m k = (la (fun x => L.id x == k) i).map K
  sz : s.sz = dc L.id i

theorem Built.next {L : Lay} {q : Int} {i : Nat} {K : Nat → Nat} {s s' : Sta} {b : Nat} (h : Built L q i K s) (hnd : ∀ x, L.nd x < L.nk)
    (hwl : ∀ j, s'.wl j = if j = L.nd i then s.wl (L.nd i) ++ [i] else s.wl j) (hpos : ∀ x, s'.pos x = if x = i then (s.wl (L.nd i)).length else s.pos x)
    (hnl : (s.wl (L.nd i) = [] → s'.nl = s.nl ++ [L.nd i] ∧ s'.qa = upd s.qa (L.nd i) s.nl.length) ∧ (s.wl (L.nd i) ≠ [] → s'.nl = s.nl ∧ s'.qa = s.qa))
    (hmu : s'.mu = s.mu) (hque : s'.que = s.que) (hwt : ∀ x, s'.wt x = if x = i then true else s.wt x)
    (hm : ∀ k, s'.m k = if k = L.id i then some b else s.m k) (hsz : s'.sz = if (s.m (L.id i)).isSome then s.sz else s.sz + 1) : Built L q (i + 1) (upd K i b) s' := by
  have hw := h.wl (L.nd i) (hnd i)
  refine ⟨fun j hj => ?_, fun x hx => ?_, ?_, fun j hj hne => ?_, hmu.trans h.mu, hque.trans h.que, fun x hx => ?_, fun k => ?_, ?_⟩
  · rw [hwl]
    by_cases hji : j = L.nd i
    · subst hji
      rw [if_pos rfl, wlOf_same, hw]
    · rw [if_neg hji, wlOf_other hji, h.wl j hj]
  · rw [hpos]
    by_cases hxi : x = i
    · subst hxi
      rw [if_pos rfl, hw]
    · rw [if_neg hxi]
      exact h.pos x (by omega)
  · unfold nlOf
    by_cases he : s.wl (L.nd i) = []
    · rw [(hnl.1 he).1, if_pos (by rw [← hw]; exact he), h.nl]
    · rw [(hnl.2 he).1, if_neg (by rw [← hw]; exact he), h.nl]
  · by_cases he : s.wl (L.nd i) = []
    · obtain ⟨e1, e2⟩ := hnl.1 he
      rw [e1, e2]
      by_cases hji : j = L.nd i
      · subst hji
        rw [upd_same]
        simp
      · rw [upd_ne _ _ hji]
        have hq := h.qa j hj (by rw [wlOf_other hji] at hne; exact hne)
        rw [List.getElem?_append_left (List.getElem?_eq_some_iff.1 hq).1]
        exact hq
    · obtain ⟨e1, e2⟩ := hnl.2 he
      rw [e1, e2]
      by_cases hji : j = L.nd i
      · subst hji
        exact h.qa _ hj (by rw [← hw]; exact he)
      · exact h.qa j hj (by rw [wlOf_other hji] at hne; exact hne)
  · rw [hwt]
    by_cases hxi : x = i
    · rw [if_pos hxi]
    · rw [if_neg hxi]
      exact h.wt x (by omega)
  · rw [hm]
    by_cases hk : k = L.id i
    · subst hk
      rw [if_pos rfl, la_grow (by simp)]
      simp [upd_same]
    · rw [if_neg hk, la_grow_no (by rw [beq_eq_false_iff_ne]; exact fun e => hk e.symm), h.m]
      cases hl : la (fun x => L.id x == k) i with
      | none => rfl
      | some j =>
        have hj := (la_some hl).1
        simp only [Option.map_some]
        rw [upd_ne K b (by omega)]
  · rw [hsz]
    unfold dc
    rw [h.m, h.sz]
    cases la (fun x => L.id x == L.id i) i <;> rfl

end Go.Proofs.Ybulkdukm
