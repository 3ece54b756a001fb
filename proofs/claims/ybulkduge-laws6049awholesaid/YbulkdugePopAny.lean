/-
  THE CONTRACT OF 'popFront' (8) OVER THE PLAIN MODEL.
-/
import Derived.Test.YbulkdugePop
namespace Go.Proofs.Ybulkduge
open Go.RowKit
set_option linter.unusedVariables false

/-- What a call on the list leaves: the list is 'ms' now; of old memory only the list's own has turned; what it owns now it owned, or is new. -/
def Left (w w' : World) (L : Nat) (st : LSt) (ms : List Msg) : Prop :=
  ∃ st', LI w' L st' ∧ items st' = ms ∧ Outside (foot L st) w w' ∧ (∀ k ∈ foot L st', k ∈ foot L st ∨ w.heap.size ≤ k) ∧ st'.blks.length ≤ st.blks.length + 1

theorem cutW_L {w : World} {L ga oa nb cap : Nat} {a b c d : Value} (h : w.heap[L]? = some (.cells #[a, b, c, d] 29 (0, 0))) (hne : L ≠ ga) :
    (cutW w L ga oa nb cap).heap[L]? = some (.cells #[.slice (cutA ga oa 1 cap 1) (nb - 1) (cap - 1), .int .i64 0, c, d] 29 (0, 0)) := by
  have h1 : (w.setCell ⟨ga, oa, none⟩ (.slice none 0 0)).heap[L]? = some (.cells #[a, b, c, d] 29 (0, 0)) := by rw [Below.heap_setCell _ _ _ L hne]; exact h
  exact (head_set ((head_set h1 _).1) _).2.1

theorem cutW_other {w : World} {L ga oa nb cap k : Nat} (h1 : k ≠ L) (h2 : k ≠ ga) : (cutW w L ga oa nb cap).heap[k]? = w.heap[k]? := by
  unfold cutW
  rw [Below.heap_setCell _ _ _ k h1, Below.heap_setCell _ _ _ k h1, Below.heap_setCell _ _ _ k h2]

theorem cutW_ga {w w1 : World} {L ga oa nb cap : Nat} {cur : Array Value} (hne : ga ≠ L) (hw : w.heap[ga]? = some (.cells cur 24 (0, 0))) (hw1 : w1.heap[ga]? = some (.cells cur 24 (0, 0))) :
    (cutW w L ga oa nb cap).heap[ga]? = (w1.setCell ⟨ga, oa, none⟩ (.slice none 0 0)).heap[ga]? := by
  unfold cutW
  rw [Below.heap_setCell _ _ _ ga hne, Below.heap_setCell _ _ _ ga hne, heap_setCell_same w ga oa cur 24 _ hw, heap_setCell_same w1 ga oa cur 24 _ hw1]

theorem tail_of (l : List Msg) (f n : Nat) : ((l.drop f).take n).tail = (l.drop (f + 1)).take (n - 1) := by
  rw [← List.drop_one, List.drop_take, List.drop_drop]

theorem spareV_slice (s : Option Blk) : ∃ sa sl, spareV s = .slice sa sl sl := by
  cases s with
  | none => exact ⟨none, 0, rfl⟩
  | some b => exact ⟨_, _, rfl⟩

theorem pop_any {w : World} {L : Nat} {st : LSt} (h : LI w L st) (hn : 1 ≤ st.n) (hb : st.n ≤ 900000000) :
    Calls Yba.prog 8 #[.pointer (some ⟨L, 0, none⟩)] w fun e w' => (∃ v, e = .returned v) ∧ Left w w' L st (items st).tail := by
  have hfit := h.fits
  cases hbl : st.blks with
  | nil => rw [hbl] at hfit; simp [places] at hfit; omega
  | cons b r =>
    have hfr := h.front b r hbl
    have hbm : b ∈ st.blks := by rw [hbl]; simp
    have hb4 := (good_pos _ h.good b hbm).2
    have hj : st.first < (places st.blks).length := by omega
    obtain ⟨ga, oa, len, hao, hk, hp, hl4, hca⟩ := h.arrAt _ hj
    have ef : st.first / 4096 = 0 := by omega
    have em : st.first % 4096 = st.first := by omega
    have eg : gAt st st.first = b.1 := by simp [gAt, ef, hbl]
    have hcap : 1 ≤ st.cap := by have := h.arr.2.1; rw [hbl] at this; simp at this; omega
    have hown : ga ∈ ownB st.ao st.cap := by rw [hao, ownB_some (by omega)]; simp
    have hrb := h.rows b hbm
    have hgaL : ga ≠ L := h.own_ne_L hown
    have hgab : ga ≠ b.1 := h.own_ne_row hown hrb
    have hbL : b.1 ≠ L := h.row_ne_L hrb
    have hca' : w.cell? ⟨ga, oa, none⟩ = some (.slice (some ⟨b.1, 0, none⟩) b.2.length b.2.length) := by
      have ha := h.arr
      rw [hao, hbl] at ha
      have := ha.cell (by omega) 0 (by simp)
      simpa [sv] using this
    obtain ⟨cur, hcur⟩ : ∃ cur, w.heap[ga]? = some (.cells cur 24 (0, 0)) := by
      obtain ⟨g', off', cur, he, hh, _⟩ := h.arr.at_ (by omega)
      rw [hao] at he
      simp at he
      obtain ⟨rfl, rfl⟩ := he
      exact ⟨cur, hh⟩
    obtain ⟨sa, sl, hsv⟩ := spareV_slice st.spare
    have hsl4 : sl ≤ 4096 ∧ (∀ s, st.spare = some s → sl = s.2.length) := by
      cases hs : st.spare with
      | none => rw [hs] at hsv; simp [spareV] at hsv; exact ⟨by omega, by simp⟩
      | some s => rw [hs] at hsv; simp [spareV, sv] at hsv; exact ⟨by have := (h.spar s hs).2; omega, fun x hx => by simp at hx; subst hx; exact hsv.2.symm⟩
    have hc0 := h.c0
    rw [hao] at hc0
    have hc3 := h.c3
    rw [hsv] at hc3
    obtain ⟨a0, a1, a2, a3⟩ := h.cells _ hj
    rw [eg, em] at a0 a1 a2 a3
    have hmaxL := h.arr.2
    have hat := at_any (h.alloc (.cells #[.int .i64 0, .int .i64 0, .int .i64 0, .nilIface] 26)) 0 (by omega) (by simpa using hj) (by simp; omega)
    have e0 : st.first + (0 : Int).toNat = st.first := by simp
    rw [e0, eg, em] at hat
    refine pop_walk L st.n st.first b.1 st.first b.2.length ga oa st.blks.length st.cap sl sl sa (mAt st st.first) w hn (by omega) (by omega) h.ltL hrb.lt (lt_of_block hcur) hbL hgaL hgab (fun e => hgab e.symm) hb4 hsl4.1 (by omega) ?_
      hc0 h.c1 h.c2 hc3 (fun j => h.fz j) hca' (frozen_of_row w ga oa cur 24 hcur) a0 a1 a2 a3 (fun j => hrb.frozen j) hat _ ?_
    · have := hmaxL.1
      have := hmaxL.2.1
      unfold maxLen at this
      omega
    -- the stores
    have h1 := h.store _ hj zeroM
    rw [eg, em] at h1
    have hpl := h.places_put _ hj zeroM
    have en : ((st.n - 1 : Nat) : Int) = (st.n : Int) - 1 := by omega
    have hO0 : Outside (foot L st) w (popW0 w L st.n st.first b.1 st.first) := (((Outside.refl (foot L st) w).stM _ _ (.inl (mem_foot_blk hbm)) _).setCell L 1 (.inl mem_foot_L) _).setCell L 2 (.inl mem_foot_L) _
    unfold popW
    by_cases hpop : st.first + 1 = b.2.length
    · rw [if_pos hpop]
      have hb1 : (put st st.first zeroM).blks = (b.1, b.2.set st.first zeroM) :: r := by
        show putB st.blks st.first zeroM = _
        rw [putB_eq _ _ _ b (by rw [ef, hbl]; rfl), ef, em, hbl]
        rfl
      have hitems : items { blks := r, first := 0, n := st.n - 1, spare := none, ao := none, cap := 0 } = (items st).tail := by
        unfold items
        rw [tail_of]
        simp only [List.drop_zero]
        rw [hbl, places_cons, List.drop_append_of_le_length (by omega), List.drop_eq_nil_of_le (by omega), List.nil_append]
      have hn' : st.n - 1 ≤ (places r).length := by
        rw [hbl, places_cons, List.length_append] at hfit
        omega
      have hd1 : (stM w b.1 st.first zeroM).heap[L]? = some (.cells #[.slice st.ao st.blks.length st.cap, .int .i64 (st.first : Nat), .int .i64 (st.n : Nat), spareV st.spare] 29 (0, 0)) := by
        have := h1.hd
        simpa [head, put, putB_length] using this
      have hd3 : (popW0 w L st.n st.first b.1 st.first).heap[L]? = some (.cells #[.slice st.ao st.blks.length st.cap, .int .i64 ((st.first : Int) + 1), .int .i64 ((st.n : Int) - 1), spareV st.spare] 29 (0, 0)) := (head_set ((head_set hd1 (.int .i64 ((st.first : Int) + 1))).2.1) (.int .i64 ((st.n : Int) - 1))).2.2.1
      have hcur1 : (stM w b.1 st.first zeroM).heap[ga]? = some (.cells cur 24 (0, 0)) := by
        rw [((Outside.refl [b.1] w).stM b.1 st.first (.inl (by simp)) zeroM).block ga (lt_of_block hcur) (by simp; exact hgab)]
        exact hcur
      have hP0 : ∀ k, k ≠ L → (popW0 w L st.n st.first b.1 st.first).heap[k]? = (stM w b.1 st.first zeroM).heap[k]? := fun k hk => by
        unfold popW0
        rw [Below.heap_setCell _ _ _ k hk, Below.heap_setCell _ _ _ k hk]
      by_cases hsle : sl < b.2.length
      · rw [if_pos hsle]
        have hP3 : ∀ k, k ≠ L → ((popW0 w L st.n st.first b.1 st.first).setCell ⟨L, 3, none⟩ (.slice (some ⟨b.1, 0, none⟩) b.2.length b.2.length)).heap[k]? = (stM w b.1 st.first zeroM).heap[k]? := fun k hk => by
          rw [Below.heap_setCell _ _ _ k hk]; exact hP0 k hk
        have hd4 := (head_set hd3 (.slice (some ⟨b.1, 0, none⟩) b.2.length b.2.length)).2.2.2
        have hdrop := h1.dropHead (w' := cutW ((popW0 w L st.n st.first b.1 st.first).setCell ⟨L, 3, none⟩ (.slice (some ⟨b.1, 0, none⟩) b.2.length b.2.length)) L ga oa st.blks.length st.cap) _ r hb1 ga oa hao (st.n - 1) hn' (some (b.1, b.2.set st.first zeroM)) (.inr rfl) ?_ ?_ ?_
        · refine ⟨_, (hdrop.1.alloc _).alloc _, ?_, ?_, ?_, ?_⟩
          · rw [← hitems]; rfl
          · refine Outside.alloc (Outside.alloc ?_ _) _
            exact (((hO0.setCell L 3 (.inl mem_foot_L) _).setCell ga oa (.inl (mem_foot_own hown)) _).setCell L 0 (.inl mem_foot_L) _).setCell L 1 (.inl mem_foot_L) _
          · intro k hk
            have := hdrop.2 k hk
            rw [foot_put] at this
            exact .inl this
          · show r.length ≤ _
            rw [hbl]; simp; omega
        · rw [cutW_L hd4 (fun e => hgaL e.symm)]
          simp only [head, spareV, sv, List.length_set, hbl, List.length_cons, Nat.add_sub_cancel, en]
          rfl
        · intro k h1 h2
          rw [cutW_other h1 h2]; exact hP3 k h1
        · exact cutW_ga hgaL (by rw [hP3 ga hgaL]; exact hcur1) hcur1
      · rw [if_neg hsle]
        have hdrop := h1.dropHead (w' := cutW (popW0 w L st.n st.first b.1 st.first) L ga oa st.blks.length st.cap) _ r hb1 ga oa hao (st.n - 1) hn' st.spare (.inl rfl) ?_ ?_ ?_
        · refine ⟨_, (hdrop.1.alloc _).alloc _, ?_, ?_, ?_, ?_⟩
          · rw [← hitems]; rfl
          · refine Outside.alloc (Outside.alloc ?_ _) _
            exact (((hO0).setCell ga oa (.inl (mem_foot_own hown)) _).setCell L 0 (.inl mem_foot_L) _).setCell L 1 (.inl mem_foot_L) _
          · intro k hk
            have := hdrop.2 k hk
            rw [foot_put] at this
            exact .inl this
          · show r.length ≤ _
            rw [hbl]; simp; omega
        · rw [cutW_L hd3 (fun e => hgaL e.symm)]
          simp only [head, hbl, List.length_cons, Nat.add_sub_cancel, en]
          rfl
        · intro k h1 h2
          rw [cutW_other h1 h2]; exact hP0 k h1
        · exact cutW_ga hgaL (by rw [hP0 ga hgaL]; exact hcur1) hcur1
    · rw [if_neg hpop]
      have h2 := h1.setFN (st.first + 1) (st.n - 1) (by rw [hpl, List.length_set]; omega) (fun c r' hc => by
          have hlen : c.2.length = b.2.length := by
            have e := putB_sv st.blks st.first zeroM
            have hc' : putB st.blks st.first zeroM = c :: r' := hc
            rw [hc', hbl] at e
            simp [sv] at e
            exact e.1.2
          omega) (fun h0 => by
          have : (putB st.blks st.first zeroM).length = 0 := by
            show (put st st.first zeroM).blks.length = 0
            rw [h0]; rfl
          rw [putB_length, hbl] at this
          simp at this)
      rw [en, show ((st.first + 1 : Nat) : Int) = (st.first : Int) + 1 by omega] at h2
      refine ⟨_, (h2.alloc _).alloc _, ?_, (hO0.alloc _).alloc _, ?_, ?_⟩
      · show ((places (put st st.first zeroM).blks).drop (st.first + 1)).take (st.n - 1) = _
        unfold items
        rw [tail_of, hpl, List.drop_set, if_pos (by omega)]
      · intro k hk
        have : foot L { put st st.first zeroM with first := st.first + 1, n := st.n - 1 } = foot L (put st st.first zeroM) := rfl
        rw [this, foot_put] at hk
        exact .inl hk
      · show (putB st.blks st.first zeroM).length ≤ _
        rw [putB_length]; omega

end Go.Proofs.Ybulkduge
