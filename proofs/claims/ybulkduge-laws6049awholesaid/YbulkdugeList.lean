/-
  A messageList IN MEMORY: 'LI w L st': the struct at block L is the plain model 'st'. What turns and what stays under stores. Speaks of no program.
-/
import Derived.Test.YbulkdugeMsg
namespace Go.Proofs.Ybulkduge
open Go.RowKit
set_option linter.unusedVariables false

def sv (b : Blk) : Value := .slice (some ⟨b.1, 0, none⟩) b.2.length b.2.length
def spareV : Option Blk → Value
  | none => .slice none 0 0
  | some b => sv b
def rowsOf (st : LSt) : List Nat := st.blks.map Prod.fst ++ st.spare.toList.map Prod.fst
def foot (L : Nat) (st : LSt) : List Nat := L :: (ownB st.ao st.cap ++ rowsOf st)
def head (st : LSt) : Obj := .cells #[.slice st.ao st.blks.length st.cap, .int .i64 (st.first : Nat), .int .i64 (st.n : Nat), spareV st.spare] 29 (0, 0)

structure LI (w : World) (L : Nat) (st : LSt) : Prop where
  hd : w.heap[L]? = some (head st)
  arr : Slc w 24 1 st.ao st.blks.length st.cap (st.blks.map sv)
  rows : ∀ b ∈ st.blks, RowM w b.1 b.2
  srow : ∀ b ∈ st.spare, RowM w b.1 b.2
  nodup : (rowsOf st).Nodup
  good : Good 4096 st.blks
  fits : st.first + st.n ≤ (places st.blks).length
  front : ∀ b r, st.blks = b :: r → st.first < b.2.length
  bare : st.blks = [] → st.first = 0
  spar : ∀ b ∈ st.spare, 0 < b.2.length ∧ b.2.length ≤ 4096

section
variable {w w' : World} {L : Nat} {st : LSt}

theorem mem_foot_L : L ∈ foot L st := by simp [foot]
theorem mem_foot_own {g : Nat} (h : g ∈ ownB st.ao st.cap) : g ∈ foot L st := by simp [foot, h]
theorem mem_foot_blk {b : Blk} (h : b ∈ st.blks) : b.1 ∈ foot L st := by
  have : b.1 ∈ rowsOf st := List.mem_append.2 (.inl (List.mem_map.2 ⟨b, h, rfl⟩))
  simp [foot, this]
theorem mem_foot_spare {b : Blk} (h : st.spare = some b) : b.1 ∈ foot L st := by
  have : b.1 ∈ rowsOf st := List.mem_append.2 (.inr (by simp [h]))
  simp [foot, this]

theorem LI.of_block (h : LI w L st) (hb : ∀ k ∈ foot L st, w'.heap[k]? = w.heap[k]?) : LI w' L st where
  hd := by rw [hb L mem_foot_L]; exact h.hd
  arr := h.arr.of_block fun g hg => hb g (mem_foot_own hg)
  rows := fun b hm => (h.rows b hm).of_block (hb _ (mem_foot_blk hm))
  srow := fun b hm => (h.srow b hm).of_block (hb _ (mem_foot_spare (by simpa using hm)))
  nodup := h.nodup
  good := h.good
  fits := h.fits
  front := h.front
  bare := h.bare
  spar := h.spar

theorem LI.foot_lt (h : LI w L st) : ∀ k ∈ foot L st, k < w.heap.size := by
  intro k hk
  simp only [foot, rowsOf, List.mem_cons, List.mem_append, List.mem_map] at hk
  rcases hk with rfl | hk | ⟨b, hb, rfl⟩ | ⟨b, hb, rfl⟩
  · exact lt_of_block h.hd
  · exact h.arr.lt k hk
  · exact (h.rows b hb).lt
  · exact (h.srow b (by simpa using hb)).lt

theorem LI.outside {S : List Nat} (h : LI w L st) (ho : Outside S w w') (hn : ∀ k ∈ foot L st, k ∉ S) : LI w' L st :=
  h.of_block fun k hk => ho.block k (h.foot_lt k hk) (hn k hk)
theorem LI.alloc (h : LI w L st) (o : Obj) : LI (w.alloc o) L st := h.outside (S := []) ((Outside.refl _ w).alloc o) (by simp)
theorem LI.drew (h : LI w L st) : LI w.drew L st := h.outside (S := []) ((Outside.refl _ w).drew) (by simp)
theorem LI.drewN (h : LI w L st) (n : Nat) : LI (w.drewN n) L st := h.outside (S := []) ((Outside.refl _ w).drewN n) (by simp)
theorem LI.other (h : LI w L st) (g i : Nat) (hg : g ∉ foot L st) (u : Value) : LI (w.setCell ⟨g, i, none⟩ u) L st :=
  h.outside (S := [g]) ((Outside.refl _ w).setCell g i (.inl (by simp)) u) (fun k hk => by simp; rintro rfl; exact hg hk)
theorem LI.ltL (h : LI w L st) : L < w.heap.size := lt_of_block h.hd

theorem LI.c0 (h : LI w L st) : w.cell? ⟨L, 0, none⟩ = some (.slice st.ao st.blks.length st.cap) := by
  rw [cell_of_row w L 0 _ 29 (0, 0) h.hd]; rfl
theorem LI.c1 (h : LI w L st) : w.cell? ⟨L, 1, none⟩ = some (.int .i64 (st.first : Nat)) := by
  rw [cell_of_row w L 1 _ 29 (0, 0) h.hd]; rfl
theorem LI.c2 (h : LI w L st) : w.cell? ⟨L, 2, none⟩ = some (.int .i64 (st.n : Nat)) := by
  rw [cell_of_row w L 2 _ 29 (0, 0) h.hd]; rfl
theorem LI.c3 (h : LI w L st) : w.cell? ⟨L, 3, none⟩ = some (spareV st.spare) := by
  rw [cell_of_row w L 3 _ 29 (0, 0) h.hd]; rfl
theorem LI.fz (h : LI w L st) (i : Nat) : w.frozen? ⟨L, i, none⟩ = false := frozen_of_row w L i _ 29 h.hd

/-- The list's own struct is none of its rows. -/
theorem LI.row_ne_L (h : LI w L st) {g : Nat} {ms : List Msg} (hr : RowM w g ms) : g ≠ L := by
  rintro rfl
  have h1 := h.hd
  unfold RowM at hr
  rw [hr] at h1
  simp [head] at h1
theorem LI.own_ne_L (h : LI w L st) {g : Nat} (hg : g ∈ ownB st.ao st.cap) : g ≠ L := by
  rintro rfl
  have h1 := h.hd
  have h0 : st.cap ≠ 0 := by intro h0; simp [ownB, h0] at hg
  obtain ⟨g', off, cur, he, hh, _⟩ := h.arr.at_ (by omega)
  simp only [ownB, h0, if_false, he] at hg
  simp at hg
  subst hg
  rw [hh] at h1
  simp [head] at h1
theorem LI.own_ne_row (h : LI w L st) {g : Nat} (hg : g ∈ ownB st.ao st.cap) {g' : Nat} {ms : List Msg} (hr : RowM w g' ms) : g ≠ g' := by
  rintro rfl
  have h0 : st.cap ≠ 0 := by intro h0; simp [ownB, h0] at hg
  obtain ⟨g', off, cur, he, hh, _⟩ := h.arr.at_ (by omega)
  simp only [ownB, h0, if_false, he] at hg
  simp at hg
  subst hg
  unfold RowM at hr
  rw [hh] at hr
  simp at hr

/-! ### places -/
def gAt (st : LSt) (j : Nat) : Nat := ((st.blks[j / 4096]?).getD (0, [])).1
def mAt (st : LSt) (j : Nat) : Msg := ((places st.blks)[j]?).getD zeroM
def putB (bs : List Blk) (j : Nat) (m : Msg) : List Blk := bs.modify (j / 4096) fun b => (b.1, b.2.set (j % 4096) m)
def put (st : LSt) (j : Nat) (m : Msg) : LSt := { st with blks := putB st.blks j m }

theorem four : 0 < 4096 := by decide
theorem LI.pos (h : LI w L st) (j : Nat) (hj : j < (places st.blks).length) : ∃ b, st.blks[j / 4096]? = some b ∧ j % 4096 < b.2.length ∧ b.1 = gAt st j ∧ b.2[j % 4096]? = some (mAt st j) ∧ RowM w b.1 b.2 ∧ b.2.length ≤ 4096 := by
  obtain ⟨b, h1, h2, h3⟩ := Ybulkduge.pos four st.blks h.good j hj
  have hm : b ∈ st.blks := List.mem_of_getElem? h1
  refine ⟨b, h1, h2, by simp [gAt, h1], ?_, h.rows b hm, (good_pos _ h.good b hm).2⟩
  rw [← h3]
  simp [mAt, hj]

theorem LI.cells (h : LI w L st) (j : Nat) (hj : j < (places st.blks).length) :
    w.cell? ⟨gAt st j, j % 4096 * 4, none⟩ = some (.int .i64 (mAt st j).1) ∧ w.cell? ⟨gAt st j, j % 4096 * 4 + 1, none⟩ = some (.int .i64 (mAt st j).2.1) ∧ w.cell? ⟨gAt st j, j % 4096 * 4 + 2, none⟩ = some (.int .i64 (mAt st j).2.2) ∧ w.cell? ⟨gAt st j, j % 4096 * 4 + 3, none⟩ = some .nilIface := by
  obtain ⟨b, h1, h2, h3, h4, h5, _⟩ := h.pos j hj
  have := h5.cells (j % 4096) h2
  rw [List.getElem?_eq_getElem h2] at h4
  simp only [Option.some.injEq] at h4
  rw [h4, h3] at this
  exact this
theorem LI.fzAt (h : LI w L st) (j : Nat) (hj : j < (places st.blks).length) (i : Nat) : w.frozen? ⟨gAt st j, i, none⟩ = false := by
  obtain ⟨b, h1, h2, h3, h4, h5, _⟩ := h.pos j hj
  rw [← h3]
  exact h5.frozen i
theorem LI.gAt_mem (h : LI w L st) (j : Nat) (hj : j < (places st.blks).length) : gAt st j ∈ foot L st := by
  obtain ⟨b, h1, h2, h3, h4, h5, _⟩ := h.pos j hj
  rw [← h3]
  exact mem_foot_blk (List.mem_of_getElem? h1)
theorem LI.gAt_ne (h : LI w L st) (j : Nat) (hj : j < (places st.blks).length) : gAt st j ≠ L := by
  obtain ⟨b, h1, h2, h3, h4, h5, _⟩ := h.pos j hj
  rw [← h3]
  exact h.row_ne_L h5

/-- The array's cell that leads to place j. -/
theorem LI.arrAt (h : LI w L st) (j : Nat) (hj : j < (places st.blks).length) : ∃ ga oa len, st.ao = some ⟨ga, oa, none⟩ ∧ j / 4096 < st.blks.length ∧ j % 4096 < len ∧ len ≤ 4096 ∧ w.cell? ⟨ga, oa + j / 4096, none⟩ = some (.slice (some ⟨gAt st j, 0, none⟩) len len) := by
  obtain ⟨b, h1, h2, h3, h4, h5, h6⟩ := h.pos j hj
  have hk : j / 4096 < st.blks.length := (List.getElem?_eq_some_iff.1 h1).1
  have hcap := h.arr.2.1
  obtain ⟨ga, oa, cur, he, _⟩ := h.arr.at_ (by omega)
  refine ⟨ga, oa, b.2.length, he, hk, h2, h6, ?_⟩
  have ha := h.arr
  rw [he] at ha
  rw [ha.cell (by omega) (j / 4096) (by omega), List.getElem?_map, h1, ← h3]
  rfl

theorem putB_length (bs : List Blk) (j : Nat) (m : Msg) : (putB bs j m).length = bs.length := by simp [putB]
theorem putB_fst (bs : List Blk) (j : Nat) (m : Msg) : (putB bs j m).map Prod.fst = bs.map Prod.fst := by
  apply List.ext_getElem?
  intro i
  simp only [putB, List.getElem?_map, List.getElem?_modify]
  cases bs[i]? with
  | none => rfl
  | some b => simp; split <;> rfl
theorem putB_sv (bs : List Blk) (j : Nat) (m : Msg) : (putB bs j m).map sv = bs.map sv := by
  apply List.ext_getElem?
  intro i
  simp only [putB, List.getElem?_map, List.getElem?_modify]
  cases bs[i]? with
  | none => rfl
  | some b => simp [sv]; split <;> simp
theorem putB_eq (bs : List Blk) (j : Nat) (m : Msg) (b : Blk) (hb : bs[j / 4096]? = some b) : putB bs j m = bs.set (j / 4096) (b.1, b.2.set (j % 4096) m) := by
  apply List.ext_getElem?
  intro i
  simp only [putB, List.getElem?_modify, List.getElem?_set]
  by_cases h : j / 4096 = i
  · subst h
    obtain ⟨h1, h2⟩ := List.getElem?_eq_some_iff.1 hb
    simp [h1, h2]
  · simp [h]
theorem foot_put (j : Nat) (m : Msg) : foot L (put st j m) = foot L st := by simp [foot, put, rowsOf, putB_fst]
theorem gAt_put (j i : Nat) (m : Msg) : gAt (put st j m) i = gAt st i := by
  unfold gAt put
  simp only [putB, List.getElem?_modify]
  cases h : st.blks[i / 4096]? with
  | none => simp
  | some b => simp; split <;> rfl
theorem LI.places_put (h : LI w L st) (j : Nat) (hj : j < (places st.blks).length) (m : Msg) : places (put st j m).blks = (places st.blks).set j m := by
  obtain ⟨b, h1, h2, _⟩ := h.pos j hj
  show places (putB st.blks j m) = _
  rw [putB_eq st.blks j m b h1]
  exact pos_set four st.blks h.good j b h1 h2 m

/-- A message stored at place j. -/
theorem LI.store (h : LI w L st) (j : Nat) (hj : j < (places st.blks).length) (m : Msg) : LI (stM w (gAt st j) (j % 4096) m) L (put st j m) := by
  obtain ⟨b, h1, h2, h3, h4, h5, h6⟩ := h.pos j hj
  have hO : Outside [gAt st j] w (stM w (gAt st j) (j % 4096) m) := (Outside.refl _ w).stM _ _ (.inl (by simp)) m
  have hne := h.gAt_ne j hj
  have hbm : b ∈ st.blks := List.mem_of_getElem? h1
  have hpl := h.places_put j hj m
  have hnd := h.nodup
  unfold rowsOf at hnd
  have hnd1 := (List.nodup_append.1 hnd).1
  have hnd2 := (List.nodup_append.1 hnd).2.2
  have hk := (List.getElem?_eq_some_iff.1 h1).1
  -- the other blocks' rows
  have hoth : ∀ i c, st.blks[i]? = some c → i ≠ j / 4096 → c.1 ≠ gAt st j := by
    intro i c hc hi he
    rw [← h3] at he
    have e1 : (st.blks.map Prod.fst)[i]? = some c.1 := by rw [List.getElem?_map, hc]; rfl
    have e2 : (st.blks.map Prod.fst)[j / 4096]? = some c.1 := by rw [List.getElem?_map, h1, he]; rfl
    have hi1 := (List.getElem?_eq_some_iff.1 e1).1
    exact hi ((List.getElem?_inj hi1 hnd1).1 (e1.trans e2.symm))
  refine
  { hd := ?_, arr := ?_, rows := ?_, srow := ?_, nodup := ?_, good := ?_, fits := ?_, front := ?_, bare := ?_, spar := ?_ }
  · rw [hO.block L h.ltL (by simp; exact fun e => hne e.symm), h.hd]
    simp [head, put, putB_length]
  · have := h.arr.outside hO (fun g hg => by simp; have := h.own_ne_row hg h5; rw [h3] at this; exact this)
    show Slc _ 24 1 st.ao (putB st.blks j m).length st.cap ((putB st.blks j m).map sv)
    rw [putB_length, putB_sv]
    exact this
  · intro c hc
    obtain ⟨i, hi⟩ := List.getElem?_of_mem hc
    have hi' : (putB st.blks j m)[i]? = some c := hi
    rw [putB_eq st.blks j m b h1, List.getElem?_set] at hi'
    split at hi'
    · simp only [Option.some.injEq] at hi'
      subst hi'
      have := h5.st (j % 4096) m
      rw [h3] at this
      show RowM _ b.1 _
      rw [h3]
      exact this
    · rename_i hne'
      exact (h.rows c (List.mem_of_getElem? hi')).outside hO (by simp; exact hoth i c hi' (fun e => hne' e.symm))
  · intro c hc
    refine (h.srow c hc).outside hO ?_
    simp only [List.mem_singleton]
    intro he
    rw [← h3] at he
    refine hnd2 b.1 (List.mem_map.2 ⟨b, hbm, rfl⟩) c.1 ?_ he.symm
    have hc' : st.spare = some c := hc
    simp [hc']
  · have e : rowsOf (put st j m) = rowsOf st := by simp [rowsOf, put, putB_fst]
    rw [e]
    exact h.nodup
  · show Good 4096 (putB st.blks j m)
    rw [putB_eq st.blks j m b h1]
    exact good_set st.blks h.good _ b _ h1 (by simp)
  · rw [hpl, List.length_set]
    exact h.fits
  · intro c r hcr
    have hcr' : putB st.blks j m = c :: r := hcr
    cases hb0 : st.blks with
    | nil => rw [hb0] at hcr'; simp [putB] at hcr'
    | cons a r0 =>
      have h0 := h.front a r0 hb0
      rw [putB_eq st.blks j m b h1, hb0] at hcr'
      show st.first < _
      by_cases h00 : j / 4096 = 0
      · rw [h00, List.set_cons_zero] at hcr'
        simp only [List.cons.injEq] at hcr'
        rw [← hcr'.1]
        rw [h00, hb0] at h1
        simp at h1
        subst h1
        simpa using h0
      · obtain ⟨k', hk'⟩ : ∃ k', j / 4096 = k' + 1 := ⟨j / 4096 - 1, by omega⟩
        rw [hk', List.set_cons_succ] at hcr'
        simp only [List.cons.injEq] at hcr'
        rw [← hcr'.1]
        exact h0
  · intro hb0
    apply h.bare
    have : (putB st.blks j m).length = 0 := by
      show (put st j m).blks.length = 0
      rw [hb0]; rfl
    rw [putB_length] at this
    exact List.eq_nil_of_length_eq_zero this
  · exact h.spar

theorem head_set2 (h : w.heap[L]? = some (head st)) (n' : Nat) : (w.setCell ⟨L, 2, none⟩ (.int .i64 (n' : Nat))).heap[L]? = some (head { st with n := n' }) := by
  rw [heap_setCell_same w L 2 _ 29 _ h]; rfl
theorem head_set1 (h : w.heap[L]? = some (head st)) (n' : Nat) : (w.setCell ⟨L, 1, none⟩ (.int .i64 (n' : Nat))).heap[L]? = some (head { st with first := n' }) := by
  rw [heap_setCell_same w L 1 _ 29 _ h]; rfl

/-- A store into the list's own struct leaves all its rows. -/
theorem LI.rest (h : LI w L st) (i : Nat) (u : Value) : (∀ k ∈ foot L st, k ≠ L → (w.setCell ⟨L, i, none⟩ u).heap[k]? = w.heap[k]?) :=
  fun k _ hne => Below.heap_setCell w _ u k hne

theorem LI.setN (h : LI w L st) (n' : Nat) (hf : st.first + n' ≤ (places st.blks).length) : LI (w.setCell ⟨L, 2, none⟩ (.int .i64 (n' : Nat))) L { st with n := n' } where
  hd := head_set2 h.hd n'
  arr := h.arr.of_block fun g hg => Below.heap_setCell w _ _ g (h.own_ne_L hg)
  rows := fun b hb => (h.rows b hb).of_block (Below.heap_setCell w _ _ b.1 (h.row_ne_L (h.rows b hb)))
  srow := fun b hb => (h.srow b hb).of_block (Below.heap_setCell w _ _ b.1 (h.row_ne_L (h.srow b hb)))
  nodup := h.nodup
  good := h.good
  fits := hf
  front := h.front
  bare := h.bare
  spar := h.spar
end

end Go.Proofs.Ybulkduge
