/-
  THE WALK OF '(*messageList).push' (7).
-/
import Derived.Test.YbulkdugeGrowAny
namespace Go.Proofs.Ybulkduge
open Go.RowKit
set_option linter.unusedVariables false

theorem LI.heap {w w' : World} {L : Nat} {st : LSt} (h : LI w L st) (e : w'.heap = w.heap) : LI w' L st := h.of_block fun k _ => by rw [e]

/-- The list has a place for one more in w1, the message lies boxed at block B, and behind the two stores K holds. -/
def Ready (w1 : World) (L n B : Nat) (m : Msg) (K : World → Prop) : Prop :=
  ∃ g p, ∃ x y z : Int, g ≠ L ∧ B ≠ g ∧ B ≠ L ∧ w1.cell? ⟨L, 2, none⟩ = some (.int .i64 n) ∧ (∀ j, w1.frozen? ⟨L, j, none⟩ = false) ∧
    w1.cell? ⟨g, p * 4, none⟩ = some (.int .i64 x) ∧ w1.cell? ⟨g, p * 4 + 1, none⟩ = some (.int .i64 y) ∧ w1.cell? ⟨g, p * 4 + 2, none⟩ = some (.int .i64 z) ∧ w1.cell? ⟨g, p * 4 + 3, none⟩ = some .nilIface ∧ (∀ j, w1.frozen? ⟨g, j, none⟩ = false) ∧
    w1.cell? ⟨B, 0, none⟩ = some (.int .i64 m.1) ∧ w1.cell? ⟨B, 1, none⟩ = some (.int .i64 m.2.1) ∧ w1.cell? ⟨B, 2, none⟩ = some (.int .i64 m.2.2) ∧ w1.cell? ⟨B, 3, none⟩ = some .nilIface ∧
    (∀ W', W'.heap = w1.heap → Calls Yba.prog 21 #[.pointer (some ⟨L, 0, none⟩), .int .i64 n] W' fun e w' => e = .returned (.pointer (some ⟨g, p * 4, none⟩)) ∧ w' = W') ∧
    K ((stM w1 g p m).setCell ⟨L, 2, none⟩ (.int .i64 ((n : Int) + 1))).drew

set_option maxRecDepth 100000 in
set_option maxHeartbeats 600000 in
theorem push_room (L fst n nb cap len ga oa : Nat) (go : Option Addr) (m : Msg) (w : World) (hf : fst ≤ 4096) (hn : n ≤ 900000000) (hnb : nb ≤ 900000000) (hL : L < w.heap.size) (hga : ga < w.heap.size)
    (c0 : w.cell? ⟨L, 0, none⟩ = some (.slice (some ⟨ga, oa, none⟩) nb cap)) (c1 : w.cell? ⟨L, 1, none⟩ = some (.int .i64 fst)) (c2 : w.cell? ⟨L, 2, none⟩ = some (.int .i64 n))
    (hk : (fst + n) / 4096 < nb) (hr : (fst + n) % 4096 < len) (hlen : len ≤ 4096) (ca : w.cell? ⟨ga, oa + (fst + n) / 4096, none⟩ = some (.slice go len len))
    (K : World → Prop) (hR : ∀ nq, Ready ((w.alloc (mCells m)).drewN nq) L n w.heap.size m K) :
    Calls Yba.prog 7 #[.pointer (some ⟨L, 0, none⟩), .agg #[.int .i64 m.1, .int .i64 m.2.1, .int .i64 m.2.2, .nilIface]] w fun e w' => e = .returned (.tuple #[]) ∧ K w' := by
  have HR := hide hR
  have hd : decide ((nb : Int) ≤ ((fst : Int) + (n : Int)) / 4096) = false := by simp; omega
  clear hR
  go_enter Yba.func7, Yba.ntmps7
  go_wp2
  go_quiet (fail)
  go_wp2
  obtain ⟨g, p, x, y, z, r1, r2, r3, r4, r5, r6, r7, r8, r9, r10, r11, r12, r13, r14, r15, r16⟩ := unhide HR nq
  have H1 := hide r15
  have HK := hide r16
  have r1' : L ≠ g := fun e => r1 e.symm
  clear r15 r16
  unfold mCells at *
  generalize (w.alloc (Obj.cells #[.int .i64 m.1, .int .i64 m.2.1, .int .i64 m.2.2, .nilIface] 26)).drewN nq = W1 at *
  clear c0 c1 c2 ca
  go_region_with (go_at_call 21; refine (unhide H1 _ ?_).mono ?_; (first | rfl | (simp; done)); rintro e w' ⟨rfl, rfl⟩)
  all_goals
    go_wp2
    go_end0
    exact ⟨rfl, unhide HK⟩

set_option maxRecDepth 100000 in
set_option maxHeartbeats 600000 in
theorem push_full (L fst n nb cap len ga oa : Nat) (ao go : Option Addr) (m : Msg) (w : World) (hf : fst ≤ 4096) (hn : n ≤ 900000000) (hnb : nb ≤ 900000000) (hL : L < w.heap.size)
    (c0 : w.cell? ⟨L, 0, none⟩ = some (.slice ao nb cap)) (c1 : w.cell? ⟨L, 1, none⟩ = some (.int .i64 fst)) (c2 : w.cell? ⟨L, 2, none⟩ = some (.int .i64 n))
    (hcase : nb ≤ (fst + n) / 4096 ∨ ((fst + n) / 4096 < nb ∧ len ≤ (fst + n) % 4096 ∧ ga < w.heap.size ∧ ao = some ⟨ga, oa, none⟩ ∧ w.cell? ⟨ga, oa + (fst + n) / 4096, none⟩ = some (.slice go len len)))
    (K : World → Prop) (hG : ∀ nq, Calls Yba.prog 20 #[.pointer (some ⟨L, 0, none⟩)] ((w.alloc (mCells m)).drewN nq) fun e w1 => e = .returned (.tuple #[]) ∧ Ready w1 L n w.heap.size m K) :
    Calls Yba.prog 7 #[.pointer (some ⟨L, 0, none⟩), .agg #[.int .i64 m.1, .int .i64 m.2.1, .int .i64 m.2.2, .nilIface]] w fun e w' => e = .returned (.tuple #[]) ∧ K w' := by
  have HG := hide hG
  clear hG
  rcases hcase with hk | ⟨hk, hr, hga, rfl, ca⟩
  · have hd : decide ((nb : Int) ≤ ((fst : Int) + (n : Int)) / 4096) = true := by simp; omega
    go_enter Yba.func7, Yba.ntmps7
    go_wp2
    go_quiet (fail)
    go_wp2_with fail
    refine (unhide HG nq).mono ?_
    rintro e w1 ⟨rfl, g, p, x, y, z, r1, r2, r3, r4, r5, r6, r7, r8, r9, r10, r11, r12, r13, r14, r15, r16⟩
    have H1 := hide r15
    have HK := hide r16
    have r1' : L ≠ g := fun e => r1 e.symm
    clear r15 r16 c0 c1 c2
    go_wp2
    go_region_with (go_at_call 21; refine (unhide H1 _ ?_).mono ?_; (first | rfl | (simp; done)); rintro e w' ⟨rfl, rfl⟩)
    all_goals
      go_wp2
      go_end0
      exact ⟨rfl, unhide HK⟩
  · have hd : decide ((nb : Int) ≤ ((fst : Int) + (n : Int)) / 4096) = false := by simp; omega
    go_enter Yba.func7, Yba.ntmps7
    go_wp2
    go_quiet (fail)
    go_wp2_with fail
    refine (unhide HG nq).mono ?_
    rintro e w1 ⟨rfl, g, p, x, y, z, r1, r2, r3, r4, r5, r6, r7, r8, r9, r10, r11, r12, r13, r14, r15, r16⟩
    have H1 := hide r15
    have HK := hide r16
    have r1' : L ≠ g := fun e => r1 e.symm
    clear r15 r16 c0 c1 c2 ca
    go_wp2
    go_region_with (go_at_call 21; refine (unhide H1 _ ?_).mono ?_; (first | rfl | (simp; done)); rintro e w' ⟨rfl, rfl⟩)
    all_goals
      go_wp2
      go_end0
      exact ⟨rfl, unhide HK⟩
end Go.Proofs.Ybulkduge
