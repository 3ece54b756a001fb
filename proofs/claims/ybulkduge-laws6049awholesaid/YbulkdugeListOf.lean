/-
  THE WALK OF 'listOf' (6).
-/
import Derived.Test.YbulkdugeLL
namespace Go.Proofs.Ybulkduge
open Go.RowKit
set_option linter.unusedVariables false

/-- The value (a, b, d, e) of a list that is yet to be stored: wherever it is stored in new memory, it is the list 'ms'. -/
def Fresh (w0 w : World) (g : Nat) (a b d e : Value) (c : Nat) (ms : List Msg) : Prop :=
  ∃ F, LL (w.alloc (.cells #[a, b, d, e] 29)) w.heap.size F c ms ∧ (∀ k ∈ F, k = g ∨ w0.heap.size ≤ k)

theorem head_eq (a b d e : Value) : Obj.cells #[a, b, d, e] 29 = .cells #[a, b, d, e] 29 (0, 0) := rfl

theorem ll_nil (w : World) : LL (w.alloc (.cells #[.slice none 0 0, .int .i64 0, .int .i64 0, .slice none 0 0] 29)) w.heap.size [w.heap.size] 0 [] := by
  refine ⟨{ blks := [], first := 0, n := 0, spare := none, ao := none, cap := 0 }, ?_, rfl, rfl, Nat.le_refl _⟩
  exact
  { hd := heap_alloc_new w _
    arr := Slc.nil _ _ _ _
    rows := by simp
    srow := fun b hb => by cases hb
    nodup := by simp [rowsOf]
    good := trivial
    fits := by simp [places]
    front := by intro b r hbr; cases hbr
    bare := fun _ => rfl
    spar := fun b hb => by cases hb }

theorem fresh_nil (w0 w : World) (g : Nat) (hs : w0.heap.size ≤ w.heap.size) : Fresh w0 w g (.slice none 0 0) (.int .i64 0) (.int .i64 0) (.slice none 0 0) 0 [] :=
  ⟨[w.heap.size], ll_nil w, by simp; omega⟩

theorem fresh_one (w0 w : World) (g A : Nat) (ms : List Msg) (hs : w0.heap.size ≤ w.heap.size) (hA : w.heap[A]? = some (.cells #[.slice (some ⟨g, 0, none⟩) ms.length ms.length] 24 (0, 0))) (hA0 : w0.heap.size ≤ A) (hr : RowM w g ms) (h0 : 0 < ms.length) (h4 : ms.length ≤ 4096) :
    Fresh w0 w g (.slice (some ⟨A, 0, none⟩) 1 1) (.int .i64 0) (.int .i64 (ms.length : Nat)) (.slice none 0 0) 1 ms := by
  refine ⟨[w.heap.size, A, g], ⟨{ blks := [(g, ms)], first := 0, n := ms.length, spare := none, ao := some ⟨A, 0, none⟩, cap := 1 }, ?_, ?_, rfl, Nat.le_refl _⟩, by simp; omega⟩
  · exact
    { hd := heap_alloc_new w _
      arr := by
        refine ⟨rfl, Nat.le_refl _, (show 1 ≤ maxLen from by unfold maxLen; decide), .inr ⟨A, 0, #[.slice (some ⟨g, 0, none⟩) ms.length ms.length], rfl, ?_, rfl, rfl⟩⟩
        rw [Below.heap_alloc w _ A (lt_of_block hA)]
        exact hA
      rows := by
        intro b hb
        simp at hb
        subst hb
        exact hr.of_block (Below.heap_alloc w _ g hr.lt)
      srow := fun b hb => by cases hb
      nodup := by simp [rowsOf]
      good := ⟨h0, h4⟩
      fits := by simp [places]
      front := by intro b r hbr; simp at hbr; rw [← hbr.1]; exact h0
      bare := fun _ => rfl
      spar := fun b hb => by cases hb }
  · simp [items, places]

theorem fresh_of {w0 w : World} {L : Nat} {st : LSt} (h : LI w L st) (g c : Nat) (hc : st.blks.length ≤ c) (hf : ∀ k ∈ foot L st, w0.heap.size ≤ k) (hs : w0.heap.size ≤ w.heap.size) :
    Fresh w0 w g (.slice st.ao st.blks.length st.cap) (.int .i64 (st.first : Nat)) (.int .i64 (st.n : Nat)) (spareV st.spare) c (items st) := by
  have hO : ∀ k, k < w.heap.size → (w.alloc (.cells #[.slice st.ao st.blks.length st.cap, .int .i64 (st.first : Nat), .int .i64 (st.n : Nat), spareV st.spare] 29)).heap[k]? = w.heap[k]? := fun k hk => Below.heap_alloc w _ k hk
  refine ⟨foot w.heap.size st, ⟨st, ?_, rfl, rfl, hc⟩, ?_⟩
  · exact
    { hd := heap_alloc_new w _
      arr := h.arr.of_block fun k hk => hO k (h.arr.lt k hk)
      rows := fun b hb => (h.rows b hb).of_block (hO _ (h.rows b hb).lt)
      srow := fun b hb => (h.srow b hb).of_block (hO _ (h.srow b hb).lt)
      nodup := h.nodup
      good := h.good
      fits := h.fits
      front := h.front
      bare := h.bare
      spar := h.spar }
  · intro k hk
    simp only [foot, List.mem_cons] at hk
    rcases hk with rfl | hk
    · exact .inr hs
    · exact .inr (hf k (by simp only [foot, List.mem_cons]; exact .inr hk))

set_option maxRecDepth 100000 in
set_option maxHeartbeats 1000000 in
theorem listOf_short (g : Nat) (ms : List Msg) (len : Nat) (w : World) (hr : RowM w g ms) (hl : ms.length = len) (h4 : len ≤ 4096) :
    Calls Yba.prog 6 #[.slice (some ⟨g, 0, none⟩) len len] w fun r w' => ∃ (a1 sa : Option Addr) (n1 c1 sl sc : Nat) (x y : Int), r = .returned (.agg #[.slice a1 n1 c1, .int .i64 x, .int .i64 y, .slice sa sl sc]) ∧ Fresh w w' g (.slice a1 n1 c1) (.int .i64 x) (.int .i64 y) (.slice sa sl sc) (len + 1) ms ∧ Outside [] w w' := by
  have HR := hide hr
  have HL := hide hl
  clear hr hl
  by_cases h0 : len = 0
  · have hb : ((len : Int) == 0) = true := by rw [beq_iff_eq]; omega
    have HE : Hid (ms = []) := List.eq_nil_of_length_eq_zero (by rw [HL.out]; exact h0)
    clear h0
    go_enter Yba.func6, Yba.ntmps6
    go_wp2
    refine bodyPost_ret (v := .agg #[.slice none 0 0, .int .i64 0, .int .i64 0, .slice none 0 0]) (by simp [results, Yba.results6, go_sem]) rfl ⟨_, _, _, _, _, _, _, _, rfl, ?_, (Outside.refl [] w).alloc _⟩
    rw [HE.out]
    obtain ⟨F, h1, h2⟩ := fresh_nil w (w.alloc (.cells #[.slice none 0 0, .int .i64 0, .int .i64 0, .slice none 0 0] 29)) g (by simp)
    exact ⟨F, h1.mono (by omega), h2⟩
  · have hb : ((len : Int) == 0) = false := by rw [beq_eq_false_iff_ne]; omega
    go_enter Yba.func6, Yba.ntmps6
    go_wp2
    refine bodyPost_ret (v := .agg #[.slice (some ⟨w.heap.size + 1, 0, none⟩) 1 1, .int .i64 0, .int .i64 len, .slice none 0 0]) (by simp [results, Yba.results6, go_sem]) rfl ⟨_, _, _, _, _, _, _, _, rfl, ?_, ((Outside.refl [] w).alloc _).alloc _⟩
    have e := HL.out
    subst e
    obtain ⟨F, h1, h2⟩ := fresh_one w ((w.alloc (.cells #[.slice (some ⟨w.heap.size + 1, 0, none⟩) 1 1, .int .i64 0, .int .i64 ms.length, .slice none 0 0] 29)).alloc (.cells #[.slice (some ⟨g, 0, none⟩) ms.length ms.length] 24)) g (w.heap.size + 1) ms (by simp; omega) (by have := heap_alloc_new (w.alloc (.cells #[.slice (some ⟨w.heap.size + 1, 0, none⟩) 1 1, .int .i64 0, .int .i64 ms.length, .slice none 0 0] 29)) (.cells #[.slice (some ⟨g, 0, none⟩) ms.length ms.length] 24); simpa using this) (by omega) (HR.out.outside (((Outside.refl [] w).alloc _).alloc _) (by simp)) (by omega) h4
    exact ⟨F, h1.mono (by omega), h2⟩

/-- The loop's head. -/
def LoopL (w0 w : World) (Lo R c : Nat) (ms : List Msg) : Prop :=
  ∃ F, LL w Lo F c ms ∧ (∀ k ∈ F, w0.heap.size ≤ k) ∧ R ∉ F ∧ Outside [] w0 w ∧ w.heap[R]? = some (.cells #[.slice none 0 0, .int .i64 0, .int .i64 0, .slice none 0 0] 29 (0, 0))

theorem LoopL.step {w0 w w' : World} {Lo R c : Nat} {ms ms' : List Msg} {F : List Nat} (h1 : LL w Lo F c ms) (h2 : ∀ k ∈ F, w0.heap.size ≤ k) (h3 : R ∉ F) (h4 : Outside [] w0 w) (h5 : w.heap[R]? = some (.cells #[.slice none 0 0, .int .i64 0, .int .i64 0, .slice none 0 0] 29 (0, 0))) (o : Obj)
    (ht : Turned (w.alloc o) w' Lo F (c + 1) ms') : LoopL w0 w' Lo R (c + 1) ms' := by
  obtain ⟨F', t1, t2, t3⟩ := ht
  have hRl := lt_of_block h5
  have hs := h4.size
  refine ⟨F', t1, ?_, ?_, ?_, ?_⟩
  · intro k hk
    rcases t3 k hk with h | h
    · exact h2 k h
    · simp at h; omega
  · intro hm
    rcases t3 R hm with h | h
    · exact h3 h
    · simp at h; omega
  · exact (h4.alloc o).then t2 (fun x hx => .inr (h2 x hx))
  · exact t2.obj ((Below.heap_alloc w o R hRl).trans h5) h3

set_option maxRecDepth 100000 in
set_option maxHeartbeats 1000000 in
theorem listOf_long (g : Nat) (ms : List Msg) (len : Nat) (w : World) (hr : RowM w g ms) (hl : ms.length = len) (hlo : 4096 < len) (hhi : len ≤ 700000000) :
    Calls Yba.prog 6 #[.slice (some ⟨g, 0, none⟩) len len] w fun r w' => ∃ (a1 sa : Option Addr) (n1 c1 sl sc : Nat) (x y : Int), r = .returned (.agg #[.slice a1 n1 c1, .int .i64 x, .int .i64 y, .slice sa sl sc]) ∧ Fresh w w' g (.slice a1 n1 c1) (.int .i64 x) (.int .i64 y) (.slice sa sl sc) (len + 1) ms ∧ Outside [] w w' := by
  have HR := hide hr
  have HL := hide hl
  have hgl := hr.lt
  clear hr hl
  have hb : ((len : Int) == 0) = false := by rw [beq_eq_false_iff_ne]; omega
  go_enter Yba.func6, Yba.ntmps6
  go_wp2
  go_loopw [27] (fun i wr => ∃ k : Nat, k ≤ len ∧ i = .int .i64 k ∧ LoopL w wr (w.heap.size + 1) w.heap.size k (ms.take k)) (fun i _ => len - (intOf i).toNat)
  case atStart =>
    have h1 := ll_nil (w.alloc (.cells #[.slice none 0 0, .int .i64 0, .int .i64 0, .slice none 0 0] 29))
    rw [World.size_alloc] at h1
    exact ⟨0, Nat.zero_le _, rfl, [w.heap.size + 1], h1, by simp, by simp, ((Outside.refl [] w).alloc _).alloc _, (Below.heap_alloc _ _ _ (by simp)).trans (heap_alloc_new w _)⟩
  case round =>
    obtain ⟨k, hk, rfl, F, h1, h2, h3, h4, h5⟩ := hrel
    by_cases hlt : k < len
    · have hkm : k < ms.length := by rw [HL.out]; exact hlt
      obtain ⟨p0, p1, p2, p3⟩ := (HR.out.outside h4 (by simp)).cells k hkm
      have hz := Nat.lt_of_lt_of_le hgl h4.size
      have e : ms.take (k + 1) = ms.take k ++ [ms[k]] := List.take_succ_eq_append_getElem hkm
      have HE := hide e
      generalize ms[k] = m at *
      have htl : (ms.take k).length ≤ 800000000 := by simp; omega
      have HP := hide (push_ll (h1.outside ((Outside.refl [] wr).alloc (.cells #[.int .i64 m.1, .int .i64 m.2.1, .int .i64 m.2.2, .nilIface] 26)) (by simp)) m htl (by omega))
      have HS := hide (fun w' : World => LoopL.step (w' := w') (ms' := ms.take k ++ [m]) h1 h2 h3 h4 h5 (.cells #[.int .i64 m.1, .int .i64 m.2.1, .int .i64 m.2.2, .nilIface] 26))
      clear h1 h2 h3 h4 h5 e
      go_wp2_with (go_at_call 7; refine (unhide HP).mono ?_; rintro e w2 ⟨rfl, ht⟩; have HT := hide ht; clear ht)
      go_roundw
      case rel => exact ⟨k + 1, by omega, by go_num, by rw [HE.out]; exact unhide HS _ HT.out⟩
      case measure => simp [intOf]; omega
    · obtain rfl : k = len := by omega
      have et : ms.take k = ms := List.take_of_length_le (by rw [HL.out]; exact Nat.le_refl _)
      rw [et] at h1
      obtain ⟨st, g1, g2, g3, g4⟩ := h1
      obtain ⟨sa, sl, hsv⟩ := spareV_slice st.spare
      have c0 := g1.c0
      have c1 := g1.c1
      have c2 := g1.c2
      have c3 := g1.c3
      rw [hsv] at c3
      have r0 : wr.cell? ⟨w.heap.size, 0, none⟩ = some (.slice none 0 0) := by rw [cell_of_row wr _ 0 _ 29 (0, 0) h5]; rfl
      have r1 : wr.cell? ⟨w.heap.size, 1, none⟩ = some (.int .i64 0) := by rw [cell_of_row wr _ 1 _ 29 (0, 0) h5]; rfl
      have r2 : wr.cell? ⟨w.heap.size, 2, none⟩ = some (.int .i64 0) := by rw [cell_of_row wr _ 2 _ 29 (0, 0) h5]; rfl
      have r3 : wr.cell? ⟨w.heap.size, 3, none⟩ = some (.slice none 0 0) := by rw [cell_of_row wr _ 3 _ 29 (0, 0) h5]; rfl
      have rf : ∀ j, wr.frozen? ⟨w.heap.size, j, none⟩ = false := fun j => frozen_of_row wr _ j _ 29 h5
      have HX := hide (show (∀ k ∈ F, w.heap.size ≤ k) ∧ w.heap.size ∉ F ∧ Outside [] w wr from ⟨h2, h3, h4⟩)
      have HLI := hide g1
      have HI := hide g2
      have HFt := hide g3
      have HSV := hide hsv
      have HC := hide g4
      clear g1 g2 g3 h2 h3 h4 h5 et hsv g4
      go_wp2
      refine bodyPost_ret (v := .agg #[.slice st.ao st.blks.length st.cap, .int .i64 (st.first : Nat), .int .i64 (st.n : Nat), .slice sa sl sl]) (by simp [results, Yba.results6, go_sem, r0, r1, r2, r3]) rfl ⟨_, _, _, _, _, _, _, _, rfl, ?_, ?_⟩
      · have hRf : w.heap.size ∉ foot (w.heap.size + 1) st := by rw [HFt.out]; exact HX.out.2.1
        have hli := (((HLI.out.other w.heap.size 0 hRf (.slice st.ao st.blks.length st.cap)).other w.heap.size 1 hRf (.int .i64 (st.first : Nat))).other w.heap.size 2 hRf (.int .i64 (st.n : Nat))).other w.heap.size 3 hRf (.slice sa sl sl)
        have hf := fresh_of (w0 := w) hli g (k + 1) (by have := HC.out; omega) (by rw [HFt.out]; exact HX.out.1) (by have := HX.out.2.2.size; simpa using this)
        rw [HSV.out, HI.out] at hf
        exact hf
      · exact (((HX.out.2.2.setCell _ 0 (.inr (Nat.le_refl _)) _).setCell _ 1 (.inr (Nat.le_refl _)) _).setCell _ 2 (.inr (Nat.le_refl _)) _).setCell _ 3 (.inr (Nat.le_refl _)) _
theorem listOf_any (g : Nat) (ms : List Msg) (len : Nat) (w : World) (hr : RowM w g ms) (hl : ms.length = len) (h : len ≤ 700000000) :
    Calls Yba.prog 6 #[.slice (some ⟨g, 0, none⟩) len len] w fun r w' => ∃ (a1 sa : Option Addr) (n1 c1 sl sc : Nat) (x y : Int), r = .returned (.agg #[.slice a1 n1 c1, .int .i64 x, .int .i64 y, .slice sa sl sc]) ∧ Fresh w w' g (.slice a1 n1 c1) (.int .i64 x) (.int .i64 y) (.slice sa sl sc) (len + 1) ms ∧ Outside [] w w' := by
  by_cases h4 : len ≤ 4096
  · exact listOf_short g ms len w hr hl h4
  · exact listOf_long g ms len w hr hl (by omega) h

end Go.Proofs.Ybulkduge
