/-
  THE CONTRACT OF 'push' (7) OVER THE PLAIN MODEL.
-/
import Derived.Test.YbulkdugePush
namespace Go.Proofs.Ybulkduge
open Go.RowKit
set_option linter.unusedVariables false

theorem items_put (l : List Msg) (f n : Nat) (m : Msg) (h : f + n < l.length) : ((l.set (f + n) m).drop f).take (n + 1) = (l.drop f).take n ++ [m] := by
  apply List.ext_getElem?
  intro k
  simp only [List.getElem?_take, List.getElem?_drop, List.getElem?_set, List.getElem?_append, List.length_take, List.length_drop]
  have e : min n (l.length - f) = n := by omega
  rw [e]
  by_cases h1 : k < n
  · have h2 : ¬ f + n = f + k := by omega
    have h3 : k < n + 1 := by omega
    simp only [h1, h2, h3, if_true, if_false]
  · by_cases h2 : k = n
    · subst h2
      simp [h]
    · have h3 : ¬ k < n + 1 := by omega
      simp only [h1, h3, if_false]
      rw [List.getElem?_eq_none (by simp; omega)]

theorem ready_of {w1 : World} {L : Nat} {st1 : LSt} (h : LI w1 L st1) (hroom : st1.first + st1.n < (places st1.blks).length) (hb : st1.first + st1.n ≤ 1000000000) (B : Nat) (m : Msg) (hB : w1.heap[B]? = some (mCells m)) (hBf : B ∉ foot L st1) (K : World → Prop)
    (hK : ∀ w' st', LI w' L st' → items st' = items st1 ++ [m] → Outside (foot L st1) w1 w' → foot L st' = foot L st1 → st'.blks.length = st1.blks.length → K w') : Ready w1 L st1.n B m K := by
  obtain ⟨a0, a1, a2, a3⟩ := h.cells _ hroom
  have hgm := h.gAt_mem _ hroom
  have hcell : ∀ j, w1.cell? ⟨B, j, none⟩ = (#[.int .i64 m.1, .int .i64 m.2.1, .int .i64 m.2.2, .nilIface] : Array Value)[j]? := fun j => cell_of_row w1 B j _ 26 (0, 0) hB
  refine ⟨gAt st1 (st1.first + st1.n), (st1.first + st1.n) % 4096, _, _, _, h.gAt_ne _ hroom, fun e => hBf (e ▸ hgm), fun e => hBf (e ▸ mem_foot_L), h.c2, fun j => h.fz j, a0, a1, a2, a3, fun j => h.fzAt _ hroom j,
    hcell 0, hcell 1, hcell 2, hcell 3, ?_, ?_⟩
  · intro W' e
    have := at_any (h.heap e) st1.n (by omega) (by simpa using hroom) (by simpa using hb)
    simpa using this
  · have h1 := h.store _ hroom m
    have hp := h.places_put _ hroom m
    have h2 := h1.setN (st1.n + 1) (by rw [hp, List.length_set]; show st1.first + (st1.n + 1) ≤ _; omega)
    rw [show ((st1.n + 1 : Nat) : Int) = (st1.n : Int) + 1 by omega] at h2
    refine hK _ { put st1 (st1.first + st1.n) m with n := st1.n + 1 } h2.drew ?_ ?_ ?_ ?_
    · show ((places (put st1 _ m).blks).drop st1.first).take (st1.n + 1) = _
      rw [hp]
      exact items_put _ _ _ _ hroom
    · exact ((((Outside.refl (foot L st1) w1).stM _ _ (.inl hgm) _).setCell L 2 (.inl mem_foot_L) _)).drew
    · show foot L (put st1 _ m) = _
      exact foot_put _ _
    · exact putB_length _ _ _

theorem LI.first_le {w : World} {L : Nat} {st : LSt} (h : LI w L st) : st.first ≤ 4096 := by
  have hgp := good_pos _ h.good
  cases hbl : st.blks with
  | nil => have := h.bare hbl; omega
  | cons b r => have := h.front b r hbl; have := (hgp b (by rw [hbl]; simp)).2; omega

theorem push_any {w : World} {L : Nat} {st : LSt} (h : LI w L st) (m : Msg) (hb : st.n ≤ 800000000) (hnb : st.blks.length ≤ 800000000) :
    Calls Yba.prog 7 #[.pointer (some ⟨L, 0, none⟩), .agg #[.int .i64 m.1, .int .i64 m.2.1, .int .i64 m.2.2, .nilIface]] w fun e w' => e = .returned (.tuple #[]) ∧ Left w w' L st (items st ++ [m]) := by
  have hf := h.first_le
  have hBf : w.heap.size ∉ foot L st := fun hm => by have := h.foot_lt _ hm; omega
  have hW : ∀ nq, LI ((w.alloc (mCells m)).drewN nq) L st := fun nq => (h.alloc _).drewN nq
  have hWO : ∀ nq, Outside (foot L st) w ((w.alloc (mCells m)).drewN nq) := fun nq => ((Outside.refl _ w).alloc _).drewN nq
  have hWB : ∀ nq, ((w.alloc (mCells m)).drewN nq).heap[w.heap.size]? = some (mCells m) := fun nq => by
    have : ((w.alloc (mCells m)).drewN nq).heap = (w.alloc (mCells m)).heap := by simp
    rw [this]; exact heap_alloc_new w _
  by_cases hroom : st.first + st.n < (places st.blks).length
  · obtain ⟨ga, oa, len, hao, h1, h2, h3, h4⟩ := h.arrAt _ hroom
    have hc0 := h.c0
    rw [hao] at hc0
    refine push_room L st.first st.n st.blks.length st.cap len ga oa _ m w hf (by omega) (by omega) h.ltL (World.block_lt_of_cell? w _ h4) hc0 h.c1 h.c2 h1 h2 h3 h4 _ (fun nq => ?_)
    refine ready_of (hW nq) hroom (by omega) _ m (hWB nq) hBf _ (fun w' st' hl hi ho hft hlen => ?_)
    exact ⟨st', hl, hi, (hWO nq).trans ho, fun k hk => .inl (by rw [← hft]; exact hk), by omega⟩
  · have hfull : st.first + st.n = (places st.blks).length := by have := h.fits; omega
    have hG : ∀ nq, Calls Yba.prog 20 #[.pointer (some ⟨L, 0, none⟩)] ((w.alloc (mCells m)).drewN nq) fun e w1 => e = .returned (.tuple #[]) ∧ Ready w1 L st.n w.heap.size m (fun w' => Left w w' L st (items st ++ [m])) := by
      intro nq
      refine (grow_any (hW nq) hfull (by omega) (by omega)).mono ?_
      rintro e w1 ⟨he, st1, hl1, hi1, hn1, hr1, ho1, hf1, hb1⟩
      refine ⟨he, ?_⟩
      have hsz : ((w.alloc (mCells m)).drewN nq).heap.size = w.heap.size + 1 := by simp
      have hBf1 : w.heap.size ∉ foot L st1 := fun hm => by
        rcases hf1 _ hm with h1 | h1
        · exact hBf h1
        · omega
      rw [← hn1]
      refine ready_of hl1 hr1 (by have := hl1.first_le; omega) _ m (ho1.obj (hWB nq) hBf) hBf1 _ (fun w' st' hl hi ho hft hlen => ?_)
      refine ⟨st', hl, by rw [hi, hi1], ?_, ?_, by omega⟩
      · refine ((hWO nq).trans ho1).then ho (fun x hx => ?_)
        rcases hf1 x hx with h1 | h1
        · exact .inl h1
        · exact .inr (by omega)
      · intro k hk
        rw [hft] at hk
        rcases hf1 k hk with h1 | h1
        · exact .inl h1
        · exact .inr (by omega)
    have hcase : st.blks.length ≤ (st.first + st.n) / 4096 ∨ ∃ len ga oa go, ((st.first + st.n) / 4096 < st.blks.length ∧ len ≤ (st.first + st.n) % 4096 ∧ ga < w.heap.size ∧ st.ao = some ⟨ga, oa, none⟩ ∧ w.cell? ⟨ga, oa + (st.first + st.n) / 4096, none⟩ = some (.slice go len len)) := by
      rcases pos_end four st.blks h.good _ hfull with ⟨hle, _⟩ | ⟨b, hlast, hget, hlen, hmod, hlt⟩
      · exact .inl hle
      · have hcap := h.arr.2.1
        obtain ⟨ga, oa, cur, hao, hcur, _⟩ := h.arr.at_ (by omega)
        have ha := h.arr
        rw [hao] at ha
        refine .inr ⟨b.2.length, ga, oa, some ⟨b.1, 0, none⟩, by omega, by omega, lt_of_block hcur, hao, ?_⟩
        rw [ha.cell (by omega) _ (by omega), List.getElem?_map, hget]
        rfl
    rcases hcase with hc | ⟨len, ga, oa, go, hc⟩
    · exact push_full L st.first st.n st.blks.length st.cap 0 0 0 st.ao none m w hf (by omega) (by omega) h.ltL h.c0 h.c1 h.c2 (.inl hc) _ hG
    · exact push_full L st.first st.n st.blks.length st.cap len ga oa st.ao go m w hf (by omega) (by omega) h.ltL h.c0 h.c1 h.c2 (.inr hc) _ hG

end Go.Proofs.Ybulkduge
