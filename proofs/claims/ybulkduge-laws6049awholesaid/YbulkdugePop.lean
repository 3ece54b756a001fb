/-
  THE WALKS OF '(*messageList).retire' (22) AND 'popFront' (8).
-/
import Derived.Test.YbulkdugeTake
namespace Go.Proofs.Ybulkduge
open Go.RowKit
set_option linter.unusedVariables false

theorem Yba.size24 : (Yba.prog.info? 24).map (·.size) = some 1 := by kernel_rfl
theorem Yba.size26 : (Yba.prog.info? 26).map (·.size) = some 4 := by kernel_rfl

def popW0 (w : World) (L n fst g p : Nat) : World := ((stM w g p zeroM).setCell ⟨L, 1, none⟩ (.int .i64 ((fst : Int) + 1))).setCell ⟨L, 2, none⟩ (.int .i64 ((n : Int) - 1))
def cutW (w : World) (L ga oa nb cap : Nat) : World := ((w.setCell ⟨ga, oa, none⟩ (.slice none 0 0)).setCell ⟨L, 0, none⟩ (.slice (cutA ga oa 1 cap 1) (nb - 1) (cap - 1))).setCell ⟨L, 1, none⟩ (.int .i64 0)
def mCells (m : Msg) : Obj := .cells #[.int .i64 m.1, .int .i64 m.2.1, .int .i64 m.2.2, .nilIface] 26
/-- The world behind popFront's stores: no block emptied; one emptied and kept as the spare; one emptied and dropped. -/
def popW (w : World) (L n fst g p len ga oa nb cap sl : Nat) (m : Msg) : World :=
  if fst + 1 = len then
    if sl < len then ((cutW ((popW0 w L n fst g p).setCell ⟨L, 3, none⟩ (.slice (some ⟨g, 0, none⟩) len len)) L ga oa nb cap).alloc (mCells m)).alloc (mCells m)
    else ((cutW (popW0 w L n fst g p) L ga oa nb cap).alloc (mCells m)).alloc (mCells m)
  else ((popW0 w L n fst g p).alloc (mCells m)).alloc (mCells m)

set_option maxRecDepth 100000 in
set_option maxHeartbeats 1000000 in
theorem pop_walk (L n fst g p len ga oa nb cap sl sc : Nat) (sa : Option Addr) (m : Msg) (w : World) (hn : 1 ≤ n) (hn2 : n ≤ 1000000000) (hf : fst ≤ 1000000000) (hL : L < w.heap.size) (l1 : g < w.heap.size) (l2 : ga < w.heap.size) (n1 : g ≠ L) (n2 : ga ≠ L) (n3 : ga ≠ g) (n3' : g ≠ ga) (hlen : len ≤ 4096) (hsl : sl ≤ 4096) (hnb : 1 ≤ nb) (hnb2 : nb ≤ 9223372036854775807)
    (c0 : w.cell? ⟨L, 0, none⟩ = some (.slice (some ⟨ga, oa, none⟩) nb cap)) (c1 : w.cell? ⟨L, 1, none⟩ = some (.int .i64 fst)) (c2 : w.cell? ⟨L, 2, none⟩ = some (.int .i64 n)) (c3 : w.cell? ⟨L, 3, none⟩ = some (.slice sa sl sc)) (fz : ∀ j, w.frozen? ⟨L, j, none⟩ = false)
    (ca : w.cell? ⟨ga, oa, none⟩ = some (.slice (some ⟨g, 0, none⟩) len len)) (fa : w.frozen? ⟨ga, oa, none⟩ = false)
    (a0 : w.cell? ⟨g, p * 4, none⟩ = some (.int .i64 m.1)) (a1 : w.cell? ⟨g, p * 4 + 1, none⟩ = some (.int .i64 m.2.1)) (a2 : w.cell? ⟨g, p * 4 + 2, none⟩ = some (.int .i64 m.2.2)) (a3 : w.cell? ⟨g, p * 4 + 3, none⟩ = some .nilIface)
    (z1 : ∀ j, w.frozen? ⟨g, j, none⟩ = false)
    (hat : Calls Yba.prog 21 #[.pointer (some ⟨L, 0, none⟩), .int .i64 0] (w.alloc (.cells #[.int .i64 0, .int .i64 0, .int .i64 0, .nilIface] 26)) fun e w' => e = .returned (.pointer (some ⟨g, p * 4, none⟩)) ∧ w' = w.alloc (.cells #[.int .i64 0, .int .i64 0, .int .i64 0, .nilIface] 26))
    (K : World → Prop) (hK : K (popW w L n fst g p len ga oa nb cap sl m)) :
    Calls Yba.prog 8 #[.pointer (some ⟨L, 0, none⟩)] w fun e w' => (∃ v, e = .returned v) ∧ K w' := by
  have H1 := hide hat
  have n1' : L ≠ g := fun e => n1 e.symm
  have n2' : L ≠ ga := fun e => n2 e.symm
  have hcut : ∀ W, (Instr.slice 27 (.slice (some ⟨ga, oa, none⟩) nb cap) (some (.int .i64 1)) none none).run Yba.prog W = .ok (.slice (cutA ga oa 1 cap 1) (nb - 1) (cap - 1)) W := run_cut (P := Yba.prog) 27 24 1 Yba.underlying27 Yba.size24 ga oa nb cap 1 hnb
  clear hat
  unfold popW at hK
  by_cases hpop : fst + 1 = len
  · have hp1 : fst + 1 ≤ len := by omega
    have hp2 : len ≤ fst + 1 := by omega
    rw [if_pos hpop] at hK
    clear hpop
    by_cases hsle : sl < len
    · rw [if_pos hsle] at hK
      have HK := hide hK
      clear hK
      go_enter Yba.func8, Yba.ntmps8
      go_wp2_with fail
      refine (unhide H1).mono ?_
      rintro e w1 ⟨rfl, rfl⟩
      go_wp2
      go_end0
      go_wp2
      refine bodyPost_ret (v := .agg #[.int .i64 m.1, .int .i64 m.2.1, .int .i64 m.2.2, .nilIface]) (by simp [results, Yba.results8, go_sem]) rfl ⟨⟨_, rfl⟩, ?_⟩
      exact unhide HK
    · rw [if_neg hsle] at hK
      have HK := hide hK
      clear hK
      go_enter Yba.func8, Yba.ntmps8
      go_wp2_with fail
      refine (unhide H1).mono ?_
      rintro e w1 ⟨rfl, rfl⟩
      go_wp2
      go_end0
      go_wp2
      refine bodyPost_ret (v := .agg #[.int .i64 m.1, .int .i64 m.2.1, .int .i64 m.2.2, .nilIface]) (by simp [results, Yba.results8, go_sem]) rfl ⟨⟨_, rfl⟩, ?_⟩
      exact unhide HK
  · have hp : ((fst : Int) + 1 == (len : Int)) = false := by rw [beq_eq_false_iff_ne]; omega
    rw [if_neg hpop] at hK
    have HK := hide hK
    clear hK hpop
    go_enter Yba.func8, Yba.ntmps8
    go_wp2_with fail
    refine (unhide H1).mono ?_
    rintro e w1 ⟨rfl, rfl⟩
    go_wp2
    refine bodyPost_ret (v := .agg #[.int .i64 m.1, .int .i64 m.2.1, .int .i64 m.2.2, .nilIface]) (by simp [results, Yba.results8, go_sem]) rfl ⟨⟨_, rfl⟩, ?_⟩
    exact unhide HK
theorem head_set {w : World} {L : Nat} {a b c d : Value} (h : w.heap[L]? = some (.cells #[a, b, c, d] 29 (0, 0))) (u : Value) :
    (w.setCell ⟨L, 0, none⟩ u).heap[L]? = some (.cells #[u, b, c, d] 29 (0, 0)) ∧ (w.setCell ⟨L, 1, none⟩ u).heap[L]? = some (.cells #[a, u, c, d] 29 (0, 0)) ∧ (w.setCell ⟨L, 2, none⟩ u).heap[L]? = some (.cells #[a, b, u, d] 29 (0, 0)) ∧ (w.setCell ⟨L, 3, none⟩ u).heap[L]? = some (.cells #[a, b, c, u] 29 (0, 0)) := by
  refine ⟨?_, ?_, ?_, ?_⟩
  · rw [heap_setCell_same w L 0 _ 29 u h]; rfl
  · rw [heap_setCell_same w L 1 _ 29 u h]; rfl
  · rw [heap_setCell_same w L 2 _ 29 u h]; rfl
  · rw [heap_setCell_same w L 3 _ 29 u h]; rfl

/-- First and number written together. -/
theorem LI.setFN {w : World} {L : Nat} {st : LSt} (h : LI w L st) (f' n' : Nat) (hf : f' + n' ≤ (places st.blks).length) (hfr : ∀ b r, st.blks = b :: r → f' < b.2.length) (hba : st.blks = [] → f' = 0) :
    LI ((w.setCell ⟨L, 1, none⟩ (.int .i64 (f' : Nat))).setCell ⟨L, 2, none⟩ (.int .i64 (n' : Nat))) L { st with first := f', n := n' } := by
  have hO : ∀ k, k ≠ L → ((w.setCell ⟨L, 1, none⟩ (.int .i64 (f' : Nat))).setCell ⟨L, 2, none⟩ (.int .i64 (n' : Nat))).heap[k]? = w.heap[k]? := fun k hk => by
    rw [Below.heap_setCell _ _ _ k hk, Below.heap_setCell _ _ _ k hk]
  exact
  { hd := (head_set ((head_set h.hd _).2.1) _).2.2.1
    arr := h.arr.of_block fun g hg => hO g (h.own_ne_L hg)
    rows := fun b hb => (h.rows b hb).of_block (hO _ (h.row_ne_L (h.rows b hb)))
    srow := fun b hb => (h.srow b hb).of_block (hO _ (h.row_ne_L (h.srow b hb)))
    nodup := h.nodup
    good := h.good
    fits := hf
    front := hfr
    bare := hba
    spar := h.spar }

/-- The emptied front block goes. -/
theorem LI.dropHead {w w' : World} {L : Nat} {st : LSt} (h : LI w L st) (b : Blk) (r : List Blk) (hb : st.blks = b :: r) (ga oa : Nat) (hao : st.ao = some ⟨ga, oa, none⟩) (n' : Nat) (hn' : n' ≤ (places r).length) (sp' : Option Blk) (hsp : sp' = st.spare ∨ sp' = some b)
    (hL : w'.heap[L]? = some (head { blks := r, first := 0, n := n', spare := sp', ao := cutA ga oa 1 st.cap 1, cap := st.cap - 1 })) (hO : ∀ k, k ≠ L → k ≠ ga → w'.heap[k]? = w.heap[k]?) (hga : w'.heap[ga]? = (w.setCell ⟨ga, oa, none⟩ (.slice none 0 0)).heap[ga]?) :
    LI w' L { blks := r, first := 0, n := n', spare := sp', ao := cutA ga oa 1 st.cap 1, cap := st.cap - 1 } ∧ (∀ k ∈ foot L { blks := r, first := 0, n := n', spare := sp', ao := cutA ga oa 1 st.cap 1, cap := st.cap - 1 }, k ∈ foot L st) := by
  have hcap : 1 ≤ st.cap := by have := h.arr.2.1; rw [hb] at this; simp at this; omega
  have hown : ga ∈ ownB st.ao st.cap := by rw [hao, ownB_some (by omega)]; simp
  have ha := h.arr
  rw [hao, hb] at ha
  have hbm : b ∈ st.blks := by rw [hb]; simp
  have hgp := good_pos _ h.good
  have hrow : ∀ c ∈ st.blks, RowM w' c.1 c.2 := fun c hc => (h.rows c hc).of_block (hO _ (h.row_ne_L (h.rows c hc)) (fun e => h.own_ne_row hown (h.rows c hc) e.symm))
  have hnd := h.nodup
  unfold rowsOf at hnd
  rw [hb, List.map_cons, List.cons_append, List.nodup_cons] at hnd
  refine ⟨{ hd := hL, arr := ?_, rows := ?_, srow := ?_, nodup := ?_, good := ?_, fits := ?_, front := ?_, bare := ?_, spar := ?_ }, ?_⟩
  · have h1 := (ha.set (by omega) 0 (by simp) (.slice none 0 0)).back (by omega) 1 (by simp)
    have e : ((List.map sv (b :: r)).set 0 (Value.slice none 0 0)).drop (1 * 1) = r.map sv := by simp
    rw [e] at h1
    refine Slc.of_block (w := w.setCell ⟨ga, oa + 0, none⟩ (.slice none 0 0)) ?_ (fun g hg => ?_)
    · simpa using h1
    · have := ownB_cutA (g := ga) (off := oa) (size := 1) (cap := st.cap) 1 hcap g hg
      subst this
      simpa using hga
  · intro c hc
    exact hrow c (by rw [hb]; simp [show c ∈ r from hc])
  · intro c hc
    have hc' : sp' = some c := hc
    rcases hsp with e | e
    · rw [e] at hc'
      exact (h.srow c hc').of_block (hO _ (h.row_ne_L (h.srow c hc')) (fun e => h.own_ne_row hown (h.srow c hc') e.symm))
    · rw [e] at hc'
      simp only [Option.some.injEq] at hc'
      subst hc'
      exact hrow b hbm
  · show (r.map Prod.fst ++ sp'.toList.map Prod.fst).Nodup
    rcases hsp with e | e
    · rw [e]; exact hnd.2
    · rw [e]
      have h2 := (List.nodup_append.1 hnd.2).1
      rw [List.nodup_append]
      refine ⟨h2, by simp, ?_⟩
      intro x hx y hy
      simp at hy
      subst hy
      intro hxy
      subst hxy
      exact hnd.1 (List.mem_append.2 (.inl hx))
  · have := h.good
    rw [hb] at this
    exact good_tail b r this
  · show 0 + n' ≤ _
    simpa using hn'
  · intro c r' hcr
    exact (hgp c (by rw [hb, show r = c :: r' from hcr]; simp)).1
  · intro _; rfl
  · intro c hc
    have hc' : sp' = some c := hc
    rcases hsp with e | e
    · rw [e] at hc'; exact h.spar c hc'
    · rw [e] at hc'
      simp only [Option.some.injEq] at hc'
      subst hc'
      exact hgp b hbm
  · intro k hk
    simp only [foot, rowsOf, List.mem_cons, List.mem_append, List.mem_map] at hk
    rcases hk with rfl | hk | ⟨c, hc, rfl⟩ | ⟨c, hc, rfl⟩
    · exact mem_foot_L
    · have := ownB_cutA (g := ga) (off := oa) (size := 1) (cap := st.cap) 1 hcap k hk
      subst this
      exact mem_foot_own hown
    · exact mem_foot_blk (by rw [hb]; simp [hc])
    · rcases hsp with e | e
      · rw [e] at hc; exact mem_foot_spare (by simpa using hc)
      · rw [e] at hc
        simp at hc
        subst hc
        exact mem_foot_blk hbm

end Go.Proofs.Ybulkduge
