/-
  THE CONTRACT OF 'grow' (20) OVER THE PLAIN MODEL.
-/
import Derived.Test.YbulkdugeGrow2
import Derived.Test.YbulkdugeGrow4
namespace Go.Proofs.Ybulkduge
open Go.RowKit
set_option linter.unusedVariables false

/-- What grow leaves: the same items, and a place for one more. -/
def Grew (w w' : World) (L : Nat) (st : LSt) : Prop :=
  ∃ st', LI w' L st' ∧ items st' = items st ∧ st'.n = st.n ∧ st'.first + st'.n < (places st'.blks).length ∧ Outside (foot L st) w w' ∧ (∀ k ∈ foot L st', k ∈ foot L st ∨ w.heap.size ≤ k) ∧ st'.blks.length ≤ st.blks.length + 1

theorem items_more (l x : List Msg) (f n : Nat) (h : f + n ≤ l.length) : ((l ++ x).drop f).take n = (l.drop f).take n := by
  rw [List.drop_append_of_le_length (by omega), List.take_append_of_le_length (by simp; omega)]

theorem LI.shift {w w2 : World} {L : Nat} {st : LSt} (h : LI w L st) (b : Blk) (hb : st.blks = [b]) (hf : 1 ≤ st.first) (hn : st.n ≤ b.2.length / 2) (hfull : st.first + st.n = b.2.length)
    (hr : RowM w2 b.1 (b.2.drop st.first ++ List.replicate (b.2.length - st.n) zeroM)) (ho : Outside [b.1] w w2) : Grew w (w2.setCell ⟨L, 1, none⟩ (.int .i64 0)) L st := by
  have hbm : b ∈ st.blks := by rw [hb]; simp
  have hrb := h.rows b hbm
  have hbL := h.row_ne_L hrb
  have hgp := good_pos _ h.good b hbm
  have hlen : (b.2.drop st.first ++ List.replicate (b.2.length - st.n) zeroM).length = b.2.length := by
    simp; omega
  have hO : ∀ k, k ≠ L → k ≠ b.1 → k < w.heap.size → (w2.setCell ⟨L, 1, none⟩ (.int .i64 0)).heap[k]? = w.heap[k]? := fun k h1 h2 h3 => by
    rw [Below.heap_setCell _ _ _ k h1]; exact ho.block k h3 (by simpa using h2)
  have hsv : sv (b.1, b.2.drop st.first ++ List.replicate (b.2.length - st.n) zeroM) = sv b := by simp only [sv, hlen]
  have hd : w2.heap[L]? = some (head st) := by rw [ho.block L h.ltL (by simp; exact fun e => hbL e.symm)]; exact h.hd
  refine ⟨{ st with blks := [(b.1, b.2.drop st.first ++ List.replicate (b.2.length - st.n) zeroM)], first := 0 }, ?_, ?_, rfl, ?_, ?_, ?_, ?_⟩
  · refine { hd := ?_, arr := ?_, rows := ?_, srow := ?_, nodup := ?_, good := ?_, fits := ?_, front := ?_, bare := ?_, spar := h.spar }
    · have := (head_set hd (.int .i64 0)).2.1
      rw [this]
      simp [head, hb]
    · show Slc _ 24 1 st.ao 1 st.cap [sv _]
      rw [hsv]
      have ha := h.arr
      rw [hb] at ha
      exact ha.of_block fun g hg => hO g (h.own_ne_L hg) (h.own_ne_row hg hrb) (h.arr.lt g hg)
    · intro c hc
      simp at hc
      subst hc
      exact hr.of_block (Below.heap_setCell _ _ _ _ hbL)
    · intro c hc
      have hrc := h.srow c hc
      have hne : c.1 ≠ b.1 := by
        have hnd := h.nodup
        unfold rowsOf at hnd
        have hc' : st.spare = some c := hc
        rw [hb, hc'] at hnd
        simp at hnd
        exact fun e => hnd e.symm
      exact hrc.of_block (hO _ (h.row_ne_L hrc) hne hrc.lt)
    · have := h.nodup
      unfold rowsOf at this ⊢
      rw [hb] at this
      exact this
    · exact ⟨by rw [hlen]; exact hgp.1, by rw [hlen]; exact hgp.2⟩
    · show 0 + st.n ≤ (places [_]).length
      rw [places_cons, places_nil, List.append_nil, hlen]
      omega
    · intro c r hcr
      simp at hcr
      rw [← hcr.1, hlen]
      exact hgp.1
    · intro _; rfl
  · show ((places [_]).drop 0).take st.n = _
    unfold items
    rw [hb, places_cons, places_nil, List.append_nil, List.drop_zero, places_cons, places_nil, List.append_nil, List.take_append_of_le_length (by simp; omega)]
  · show 0 + st.n < (places [_]).length
    rw [places_cons, places_nil, List.append_nil, hlen]
    omega
  · exact (ho.mono (by intro x hx; simp at hx; subst hx; exact mem_foot_blk hbm)).setCell L 1 (.inl mem_foot_L) _
  · intro k hk
    refine .inl ?_
    simpa [foot, rowsOf, hb] using hk
  · rw [hb]; simp

theorem LI.double {w w2 : World} {L : Nat} {st : LSt} (h : LI w L st) (init : List Blk) (b : Blk) (hb : st.blks = init ++ [b]) (len' : Nat) (hl1 : b.2.length < len') (hl2 : len' ≤ 4096) (hfull : st.first + st.n = (places st.blks).length) (ga oa : Nat) (hao : st.ao = some ⟨ga, oa, none⟩)
    (hr : RowM w2 w.heap.size (b.2 ++ List.replicate (len' - b.2.length) zeroM)) (ho : Outside [] w w2) : Grew w (w2.setCell ⟨ga, oa + (st.blks.length - 1), none⟩ (.slice (some ⟨w.heap.size, 0, none⟩) len' len')) L st := by
  have hnb : st.blks.length = init.length + 1 := by rw [hb]; simp
  have hcap : 1 ≤ st.cap := by have := h.arr.2.1; omega
  have hown : ga ∈ ownB st.ao st.cap := by rw [hao, ownB_some (by omega)]; simp
  have hgaL := h.own_ne_L hown
  have hlt := h.arr.lt ga hown
  have hlen : (b.2 ++ List.replicate (len' - b.2.length) zeroM).length = len' := by simp; omega
  have hO : ∀ k, k ≠ ga → k < w.heap.size → (w2.setCell ⟨ga, oa + (st.blks.length - 1), none⟩ (.slice (some ⟨w.heap.size, 0, none⟩) len' len')).heap[k]? = w.heap[k]? := fun k h1 h3 => by
    rw [Below.heap_setCell _ _ _ k h1]; exact ho.block k h3 (by simp)
  have hpl : places (init ++ [(w.heap.size, b.2 ++ List.replicate (len' - b.2.length) zeroM)]) = places st.blks ++ List.replicate (len' - b.2.length) zeroM := by
    rw [hb, places_append, places_append, places_cons, places_nil, places_cons, places_nil, List.append_nil, List.append_nil, List.append_assoc]
  have hnd := h.nodup
  unfold rowsOf at hnd
  rw [hb, List.map_append] at hnd
  have hgp := good_pos _ h.good
  refine ⟨{ st with blks := init ++ [(w.heap.size, b.2 ++ List.replicate (len' - b.2.length) zeroM)] }, ?_, ?_, rfl, ?_, ?_, ?_, ?_⟩
  · refine { hd := ?_, arr := ?_, rows := ?_, srow := ?_, nodup := ?_, good := ?_, fits := ?_, front := ?_, bare := ?_, spar := h.spar }
    · rw [hO L (fun e => hgaL e.symm) h.ltL, h.hd]
      simp [head, hb]
    · have ha := (h.arr.outside ho (by simp))
      rw [hao] at ha
      have hs := ha.set (by omega) (st.blks.length - 1) (by omega) (.slice (some ⟨w.heap.size, 0, none⟩) len' len')
      have e : (st.blks.map sv).set (st.blks.length - 1) (.slice (some ⟨w.heap.size, 0, none⟩) len' len') = (init ++ [(w.heap.size, b.2 ++ List.replicate (len' - b.2.length) zeroM)]).map sv := by
        rw [hnb, hb, List.map_append, List.map_append, List.set_append_right _ _ (by simp)]
        simp [sv, hlen]
      rw [e] at hs
      show Slc _ 24 1 st.ao _ st.cap _
      rw [hao]
      have el : (init ++ [(w.heap.size, b.2 ++ List.replicate (len' - b.2.length) zeroM)]).length = st.blks.length := by rw [hnb]; simp
      rw [el]
      exact hs
    · intro c hc
      rcases List.mem_append.1 hc with hc | hc
      · have hrc := h.rows c (by rw [hb]; simp [hc])
        exact hrc.of_block (hO _ (fun e => h.own_ne_row hown hrc e.symm) hrc.lt)
      · simp at hc
        subst hc
        exact hr.of_block (Below.heap_setCell _ _ _ _ (by show w.heap.size ≠ ga; omega))
    · intro c hc
      have hrc := h.srow c hc
      exact hrc.of_block (hO _ (fun e => h.own_ne_row hown hrc e.symm) hrc.lt)
    · show ((init ++ [(w.heap.size, _)]).map Prod.fst ++ st.spare.toList.map Prod.fst).Nodup
      rw [List.map_append]
      have n1 := List.nodup_append.1 hnd
      have n2 := List.nodup_append.1 n1.1
      rw [List.nodup_append]
      refine ⟨?_, n1.2.1, ?_⟩
      · rw [List.nodup_append]
        refine ⟨n2.1, by simp, ?_⟩
        intro x hx y hy
        simp at hy
        subst hy
        obtain ⟨c, hc, rfl⟩ := List.mem_map.1 hx
        have := (h.rows c (by rw [hb]; simp [hc])).lt
        omega
      · intro x hx y hy
        rcases List.mem_append.1 hx with hx | hx
        · exact n1.2.2 x (List.mem_append.2 (.inl hx)) y hy
        · simp at hx
          subst hx
          obtain ⟨c, hc, rfl⟩ := List.mem_map.1 hy
          have := (h.srow c (by simpa using hc)).lt
          omega
    · have hg := h.good
      rw [hb] at hg
      exact good_last init b _ hg ⟨by rw [hlen]; omega, by rw [hlen]; exact hl2⟩
    · show st.first + st.n ≤ (places (init ++ [_])).length
      rw [hpl, List.length_append]
      omega
    · intro c r hcr
      cases init with
      | nil =>
        simp at hcr
        have := h.front b [] (by rw [hb]; rfl)
        rw [← hcr.1, hlen]
        show st.first < _
        omega
      | cons a i =>
        simp at hcr
        have := h.front a (i ++ [b]) (by rw [hb]; rfl)
        rw [← hcr.1]
        exact this
    · intro h0
      simp at h0
  · show ((places (init ++ [_])).drop st.first).take st.n = _
    unfold items
    rw [hpl, items_more _ _ _ _ (by omega)]
  · show st.first + st.n < (places (init ++ [_])).length
    rw [hpl, List.length_append, List.length_replicate]
    omega
  · exact (ho.mono (by simp)).setCell ga _ (.inl (mem_foot_own hown)) _
  · intro k hk
    simp only [foot, rowsOf, List.mem_cons, List.mem_append, List.mem_map] at hk
    rcases hk with rfl | hk | ⟨c, hc, rfl⟩ | ⟨c, hc, rfl⟩
    · exact .inl mem_foot_L
    · exact .inl (mem_foot_own hk)
    · rcases hc with hc | hc
      · exact .inl (mem_foot_blk (by rw [hb]; simp [hc]))
      · simp at hc
        subst hc
        exact .inr (Nat.le_refl _)
    · exact .inl (mem_foot_spare (by simpa using hc))
  · rw [hnb]; simp

theorem LI.more {w w2 : World} {L : Nat} {st : LSt} (h : LI w L st) (c : Blk) (hlast : ∀ b, st.blks.getLast? = some b → b.2.length = 4096) (hc : 0 < c.2.length ∧ c.2.length ≤ 4096) (hfull : st.first + st.n = (places st.blks).length)
    (hnew : st.spare = some c ∨ (st.spare = none ∧ w.heap.size ≤ c.1)) (hrow : RowM w2 c.1 c.2) (ao' : Option Addr) (cap' : Nat) (hs : Slc w2 24 1 ao' (st.blks.length + 1) cap' (st.blks.map sv ++ [sv c])) (ho : Outside (ownB st.ao st.cap) w w2) (hown : ∀ g ∈ ownB ao' cap', g ∈ ownB st.ao st.cap ∨ w.heap.size ≤ g) :
    Grew w ((w2.setCell ⟨L, 0, none⟩ (.slice ao' (st.blks.length + 1) cap')).setCell ⟨L, 3, none⟩ (.slice none 0 0)) L st := by
  have hLo : L ∉ ownB st.ao st.cap := fun hm => h.own_ne_L hm rfl
  have hd : w2.heap[L]? = some (head st) := by rw [ho.block L h.ltL hLo]; exact h.hd
  have hO2 : ∀ k, k ≠ L → ((w2.setCell ⟨L, 0, none⟩ (.slice ao' (st.blks.length + 1) cap')).setCell ⟨L, 3, none⟩ (.slice none 0 0)).heap[k]? = w2.heap[k]? := fun k h1 => by
    rw [Below.heap_setCell _ _ _ k h1, Below.heap_setCell _ _ _ k h1]
  have hpl : places (st.blks ++ [c]) = places st.blks ++ c.2 := by rw [places_append, places_cons, places_nil, List.append_nil]
  have hnd := h.nodup
  unfold rowsOf at hnd
  have hcL : c.1 ≠ L := by
    rcases hnew with e | ⟨_, e⟩
    · exact h.row_ne_L (h.srow c e)
    · have := h.ltL; omega
  have hownL : ∀ g ∈ ownB ao' cap', g ≠ L := by
    intro g hg e
    subst e
    rcases hown g hg with h1 | h1
    · exact hLo h1
    · have := h.ltL; omega
  refine ⟨{ st with blks := st.blks ++ [c], spare := none, ao := ao', cap := cap' }, ?_, ?_, rfl, ?_, ?_, ?_, ?_⟩
  · refine { hd := ?_, arr := ?_, rows := ?_, srow := ?_, nodup := ?_, good := ?_, fits := ?_, front := ?_, bare := ?_, spar := ?_ }
    · have := (head_set ((head_set hd (.slice ao' (st.blks.length + 1) cap')).1) (.slice none 0 0)).2.2.2
      rw [this]
      simp [head, spareV]
    · show Slc _ 24 1 ao' (st.blks ++ [c]).length cap' ((st.blks ++ [c]).map sv)
      rw [List.length_append, List.map_append]
      exact hs.of_block fun g hg => hO2 g (hownL g hg)
    · intro d hd
      rcases List.mem_append.1 hd with hd | hd
      · have hr := h.rows d hd
        exact (hr.outside ho (fun hm => h.own_ne_row hm hr rfl)).of_block (hO2 _ (h.row_ne_L hr))
      · simp at hd
        subst hd
        exact hrow.of_block (hO2 _ hcL)
    · intro d hd
      have hd' : (none : Option Blk) = some d := hd
      cases hd'
    · show ((st.blks ++ [c]).map Prod.fst ++ []).Nodup
      rw [List.append_nil, List.map_append]
      rcases hnew with e | ⟨e, hge⟩
      · rw [e] at hnd
        simpa using hnd
      · rw [e] at hnd
        have n1 : (st.blks.map Prod.fst).Nodup := by simpa using hnd
        rw [List.nodup_append]
        refine ⟨n1, by simp, ?_⟩
        intro x hx y hy
        simp at hy
        subst hy
        obtain ⟨d, hd, rfl⟩ := List.mem_map.1 hx
        have := (h.rows d hd).lt
        omega
    · exact good_snoc _ h.good hlast c hc
    · show st.first + st.n ≤ (places (st.blks ++ [c])).length
      rw [hpl, List.length_append]
      omega
    · intro d r hdr
      cases hb : st.blks with
      | nil =>
        rw [hb] at hdr
        simp at hdr
        have := h.bare hb
        rw [← hdr.1]
        show st.first < _
        omega
      | cons a i =>
        rw [hb] at hdr
        simp at hdr
        have := h.front a i hb
        rw [← hdr.1]
        exact this
    · intro h0
      simp at h0
    · intro d hd
      have hd' : (none : Option Blk) = some d := hd
      cases hd'
  · show ((places (st.blks ++ [c])).drop st.first).take st.n = _
    unfold items
    rw [hpl, items_more _ _ _ _ (by omega)]
  · show st.first + st.n < (places (st.blks ++ [c])).length
    rw [hpl, List.length_append]
    omega
  · exact ((ho.mono (fun x hx => mem_foot_own hx)).setCell L 0 (.inl mem_foot_L) _).setCell L 3 (.inl mem_foot_L) _
  · intro k hk
    simp only [foot, rowsOf, List.mem_cons, List.mem_append, List.mem_map] at hk
    rcases hk with rfl | hk | ⟨d, hd, rfl⟩ | ⟨d, hd, rfl⟩
    · exact .inl mem_foot_L
    · rcases hown k hk with h1 | h1
      · exact .inl (mem_foot_own h1)
      · exact .inr h1
    · rcases hd with hd | hd
      · exact .inl (mem_foot_blk hd)
      · simp at hd
        subst hd
        rcases hnew with e | ⟨_, e⟩
        · exact .inl (mem_foot_spare e)
        · exact .inr e
    · simp at hd
  · show (st.blks ++ [c]).length ≤ _
    simp

theorem last_split (l : List Blk) (b : Blk) (h : l.getLast? = some b) : ∃ init, l = init ++ [b] := by
  have hne : l ≠ [] := by rintro rfl; simp at h
  refine ⟨l.dropLast, ?_⟩
  have := List.dropLast_concat_getLast hne
  rw [List.getLast?_eq_some_getLast hne] at h
  simp at h
  rw [h] at this
  exact this.symm

theorem grow_any {w : World} {L : Nat} {st : LSt} (h : LI w L st) (hfull : st.first + st.n = (places st.blks).length) (hb : st.n ≤ 900000000) (hnb : st.blks.length ≤ 900000000) :
    Calls Yba.prog 20 #[.pointer (some ⟨L, 0, none⟩)] w fun e w' => e = .returned (.tuple #[]) ∧ Grew w w' L st := by
  have hgp := good_pos _ h.good
  have hf4 : st.first ≤ 4096 := by
    cases hbl : st.blks with
    | nil => have := h.bare hbl; omega
    | cons b r => have := h.front b r hbl; have := (hgp b (by rw [hbl]; simp)).2; omega
  have hLo : L ∉ ownB st.ao st.cap := fun hm => h.own_ne_L hm rfl
  -- the last block's cell of the array
  have harr : ∀ init b, st.blks = init ++ [b] → ∃ ga oa, st.ao = some ⟨ga, oa, none⟩ ∧ ga ∈ ownB st.ao st.cap ∧ w.cell? ⟨ga, oa + (st.blks.length - 1), none⟩ = some (.slice (some ⟨b.1, 0, none⟩) b.2.length b.2.length) ∧ w.frozen? ⟨ga, oa + (st.blks.length - 1), none⟩ = false := by
    intro init b hbl
    have hn : st.blks.length = init.length + 1 := by rw [hbl]; simp
    have hcap : 1 ≤ st.cap := by have := h.arr.2.1; omega
    obtain ⟨ga, oa, cur, hao, hcur, _⟩ := h.arr.at_ (by omega)
    refine ⟨ga, oa, hao, by rw [hao, ownB_some (by omega)]; simp, ?_, frozen_of_row w ga _ cur 24 hcur⟩
    have ha := h.arr
    rw [hao] at ha
    rw [ha.cell (by omega) (st.blks.length - 1) (by omega), List.getElem?_map, hn, hbl]
    simp [sv]
  by_cases hsh : ∃ b, st.blks = [b] ∧ 1 ≤ st.first ∧ st.n ≤ b.2.length / 2
  · obtain ⟨b, hbl, h1, h2⟩ := hsh
    have hbm : b ∈ st.blks := by rw [hbl]; simp
    obtain ⟨ga, oa, hao, hga, hca, hfa⟩ := harr [] b hbl
    rw [hbl] at hca
    simp at hca
    have hc0 := h.c0
    rw [hao, hbl] at hc0
    have hfl := h.front b [] hbl
    have hfull' : st.first + st.n = b.2.length := by rw [hfull, hbl, places_cons, places_nil, List.append_nil]
    exact grow_shift L st.first st.n b.1 b.2.length ga oa st.cap b.2 w h1 hfl (hgp b hbm).2 hfull' h2 hc0 h.c1 h.c2 (fun j => h.fz j) (h.row_ne_L (h.rows b hbm)) hca (h.rows b hbm) rfl _
      (fun w2 hr ho => h.shift b hbl h1 h2 hfull' hr ho)
  · have hcond : ∀ init b, st.blks = init ++ [b] → (2 ≤ st.blks.length ∨ (st.blks.length = 1 ∧ st.first = 0) ∨ (st.blks.length = 1 ∧ 1 ≤ st.first ∧ b.2.length / 2 < st.n)) := by
      intro init b hbl
      cases init with
      | nil =>
        rw [List.nil_append] at hbl
        by_cases hf0 : st.first = 0
        · exact .inr (.inl ⟨by rw [hbl]; rfl, hf0⟩)
        · refine .inr (.inr ⟨by rw [hbl]; rfl, by omega, ?_⟩)
          rcases Nat.lt_or_ge (b.2.length / 2) st.n with h1 | h1
          · exact h1
          · exact absurd ⟨b, hbl, by omega, h1⟩ hsh
      | cons a i => exact .inl (by rw [hbl]; simp)
    rcases pos_end four st.blks h.good _ hfull with ⟨hle, hlast⟩ | ⟨b, hlast, hget, hlen, hmod, hlt⟩
    · -- a block is appended
      have hent : ∃ g ga oa, Ent w st.first st.n st.blks.length st.ao g ga oa := by
        cases hg : st.blks.getLast? with
        | none => exact ⟨0, 0, 0, .inl (by rw [List.getLast?_eq_none_iff] at hg; rw [hg]; rfl)⟩
        | some b =>
          obtain ⟨init, hbl⟩ := last_split _ _ hg
          obtain ⟨ga, oa, hao, hga, hca, hfa⟩ := harr init b hbl
          have hb4 := hlast b hg
          rw [hb4] at hca
          have hc := hcond init b hbl
          rw [hb4] at hc
          exact ⟨b.1, ga, oa, .inr ⟨hao, hca, hc⟩⟩
      obtain ⟨g, ga, oa, hent⟩ := hent
      cases hs : st.spare with
      | some c =>
        have hc3 := h.c3
        rw [hs] at hc3
        exact grow_spare L st.first st.n st.blks.length st.cap c.1 c.2.length g ga oa st.ao _ w (by omega) (by omega) hf4 hent h.c0 h.c1 h.c2 hc3 (fun j => h.fz j) h.ltL h.arr hLo _
          (fun ao' cap' w2 hs2 ho hown => h.more c hlast (h.spar c hs) hfull (.inl hs) ((h.srow c hs).outside ho (fun hm => h.own_ne_row hm (h.srow c hs) rfl)) ao' cap' hs2 ho hown)
      | none =>
        have hc3 := h.c3
        rw [hs] at hc3
        have key : ∀ q, ((st.blks.length = 0 ∧ q = 16) ∨ (1 ≤ st.blks.length ∧ q = 4096)) → Calls Yba.prog 20 #[.pointer (some ⟨L, 0, none⟩)] w fun e w' => e = .returned (.tuple #[]) ∧ Grew w w' L st := by
          intro q hq
          refine grow_make L st.first st.n st.blks.length st.cap g ga oa q st.ao _ w (by omega) (by omega) hf4 hent hq h.c0 h.c1 h.c2 hc3 (fun j => h.fz j) h.ltL h.arr hLo _
            (fun ao' cap' w2 hr hs2 ho hown => ?_)
          refine h.more (w.heap.size, List.replicate q zeroM) hlast (by simp only [List.length_replicate]; omega) hfull (.inr ⟨hs, Nat.le_refl _⟩) hr ao' cap' ?_ ho hown
          simpa [sv] using hs2
        by_cases h0 : st.blks.length = 0
        · exact key 16 (.inl ⟨h0, rfl⟩)
        · exact key 4096 (.inr ⟨by omega, rfl⟩)
    · -- the last block is doubled
      obtain ⟨init, hbl⟩ := last_split _ _ hlast
      have hbm : b ∈ st.blks := by rw [hbl]; simp
      obtain ⟨ga, oa, hao, hga, hca, hfa⟩ := harr init b hbl
      have hc0 := h.c0
      rw [hao] at hc0
      have hb1 := (hgp b hbm).1
      have key : ∀ len', ((2 * b.2.length ≤ 4096 ∧ len' = 2 * b.2.length) ∨ (4096 < 2 * b.2.length ∧ len' = 4096)) → Calls Yba.prog 20 #[.pointer (some ⟨L, 0, none⟩)] w fun e w' => e = .returned (.tuple #[]) ∧ Grew w w' L st := by
        intro len' hl'
        exact grow_double L st.first st.n b.1 b.2.length len' ga oa st.blks.length st.cap b.2 w hb1 hlt (by omega) (by omega) (by omega) hf4 (hcond init b hbl) hl' h.arr.2.1 hc0 h.c1 h.c2 h.ltL (h.arr.lt ga hga) (h.rows b hbm).lt hca hfa (h.rows b hbm) rfl _
          (fun w2 hr ho => h.double init b hbl len' (by omega) (by omega) hfull ga oa hao hr ho)
      by_cases h2 : 2 * b.2.length ≤ 4096
      · exact key _ (.inl ⟨h2, rfl⟩)
      · exact key _ (.inr ⟨by omega, rfl⟩)

end Go.Proofs.Ybulkduge
