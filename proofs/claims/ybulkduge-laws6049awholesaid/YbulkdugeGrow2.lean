/-
  THE WALK OF '(*messageList).grow' (20), where the last block is not full: it is doubled.
-/
import Derived.Test.YbulkdugeGrow
namespace Go.Proofs.Ybulkduge
open Go.RowKit
set_option linter.unusedVariables false

set_option maxRecDepth 100000 in
set_option maxHeartbeats 4000000 in
theorem grow_double (L fst n g len len' ga oa nb cap : Nat) (ms : List Msg) (w : World) (hl0 : 1 ≤ len) (hl4 : len < 4096) (hnb : 1 ≤ nb) (hnb2 : nb ≤ 9223372036854775807) (hn2 : n ≤ 1000000000) (hf2 : fst ≤ 4096)
    (hcond : 2 ≤ nb ∨ (nb = 1 ∧ fst = 0) ∨ (nb = 1 ∧ 1 ≤ fst ∧ len / 2 < n)) (hl' : (2 * len ≤ 4096 ∧ len' = 2 * len) ∨ (4096 < 2 * len ∧ len' = 4096)) (hcap : nb ≤ cap)
    (c0 : w.cell? ⟨L, 0, none⟩ = some (.slice (some ⟨ga, oa, none⟩) nb cap)) (c1 : w.cell? ⟨L, 1, none⟩ = some (.int .i64 fst)) (c2 : w.cell? ⟨L, 2, none⟩ = some (.int .i64 n)) (hL : L < w.heap.size) (hga : ga < w.heap.size) (hg : g < w.heap.size)
    (ca : w.cell? ⟨ga, oa + (nb - 1), none⟩ = some (.slice (some ⟨g, 0, none⟩) len len)) (fa : w.frozen? ⟨ga, oa + (nb - 1), none⟩ = false) (hr : RowM w g ms) (hms : ms.length = len)
    (K : World → Prop) (hK : ∀ w2, RowM w2 w.heap.size (ms ++ List.replicate (len' - len) zeroM) → Outside [] w w2 → K (w2.setCell ⟨ga, oa + (nb - 1), none⟩ (.slice (some ⟨w.heap.size, 0, none⟩) len' len'))) :
    Calls Yba.prog 20 #[.pointer (some ⟨L, 0, none⟩)] w fun e w' => e = .returned (.tuple #[]) ∧ K w' := by
  obtain ⟨i26, hi26, hz0, hz1, hz2⟩ := info_parts Yba.info26
  have HK := hide hK
  have HR := hide hr
  have HM := hide hms
  have hl4' : len ≤ len' := by omega
  have hl5 : len' ≤ 4096 := by omega
  clear hK hr hms
  have HF0 : Hid (w.frozen? ⟨ga, oa + (nb - 1), none⟩ = false) := fa
  have HA1 : Hid (ms.length = Nat.min len len') := by show _ = _; rw [HM.out]; exact (Nat.min_eq_left (by omega)).symm
  have HA2 : Hid (ms.length ≤ (List.replicate len' zeroM).length) := by show _ ≤ _; rw [HM.out, List.length_replicate]; omega
  have HA3 : Hid (ms ++ (List.replicate len' zeroM).drop ms.length = ms ++ List.replicate (len' - len) zeroM) := by show _ = _; rw [HM.out, List.drop_replicate]
  obtain ⟨kk, hkk⟩ : ∃ kk : Int, Hid (kk = (nb : Int) - 1) := ⟨_, rfl⟩
  have hguard : (((nb : Int) - 1 == 0) = false ∧ 2 ≤ nb) ∨ (nb = 1 ∧ fst = 0) ∨ (nb = 1 ∧ decide (0 < fst) = true ∧ decide ((n : Int) ≤ (len : Int) / 2) = false) := by
    rcases hcond with h2 | h2 | ⟨h2, hf, hn⟩
    · exact .inl ⟨by rw [beq_eq_false_iff_ne]; omega, h2⟩
    · exact .inr (.inl h2)
    · exact .inr (.inr ⟨h2, by simp; omega, by simp; omega⟩)
  clear hcond
  rcases hl' with ⟨hle, hlx⟩ | ⟨hle, hlx⟩
  all_goals
    have hx1 : len' ≤ 2 * len := by omega
    have hx2 : 4096 ≤ len' ∨ 2 * len ≤ len' := by omega
    clear hlx
    rcases hguard with ⟨hk, h2⟩ | ⟨rfl, rfl⟩ | ⟨rfl, hg1, hg2⟩
  all_goals
    try rw [Nat.sub_self, Nat.add_zero] at ca
    try rw [Nat.sub_self, Nat.add_zero] at fa
    go_enter Yba.func20, Yba.ntmps20
    go_wp2
    go_quiet (fail)
    have HRd : Hid (RowM (w.drewN nq) g ms) := (HR.out.outside ((Outside.refl [] w).drewN nq) (by simp))
    go_wp2_with (first
      | (at_make; refine wpList_make_full _ rfl (.tmp 108) (.tmp 108) 24 rfl 0 26 i26 (.agg zeroA) 4 Yba.underlying24 hi26 hz0 hz1 .i64 .i64 _ _ len' rfl rfl (by omega) (by omega) (by rw [hz2]; omega) (by unfold maxLen; omega) (by simp) ?_; intro w1 hown1 hgrow1; rw [show (w.drewN nq).heap.size = w.heap.size from by simp] at hown1; have HR1 : Hid (RowM w1 w.heap.size (List.replicate len' zeroM)) := rowM_made hown1; have ho1 : Outside [] w w1 := ((Outside.refl [] w).drewN nq).trans (Outside.of_grown hgrow1 (fun k hk => by cases hk)); have HO1 := hide ho1; have HRg := hide (HR.out.outside ho1 (by simp)); have c01 := ho1.cell c0 (by simp); have ca1 := ho1.cell ca (by simp); clear hown1 hgrow1 ho1)
      | (have _t := HR1; refine wpList_copy_msgs rfl (.tmp 110) (.tmp 117) 24 24 rfl Yba.underlying24 Yba.size26 w.heap.size len' len' ⟨g, 0, none⟩ len len rfl rfl _ ms HR1.out HA1.out (row_cells HRg.out) HA2.out ?_; intro w2 hr2 ho2; rw [HA3.out] at hr2; have HR2 := hide hr2; have ho : Outside [] w w2 := HO1.out.then ho2 (by simp); have HO := hide ho; have c02 := ho.cell c0 (by simp); have ca2 := ho.cell ca (by simp); have fa2 := fz_out ho ca fa; clear hr2 ho2 ho HR1 _t))
    go_end0
    exact ⟨rfl, HK.out w2 HR2.out HO.out⟩
end Go.Proofs.Ybulkduge
