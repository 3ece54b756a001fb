/-
  THE WALK OF '(*messageList).grow' (20), where a new block is appended.
-/
import Derived.Test.YbulkdugeGrow3
namespace Go.Proofs.Ybulkduge
open Go.RowKit
set_option linter.unusedVariables false

set_option maxRecDepth 100000 in
set_option maxHeartbeats 4000000 in
theorem grow_make (L fst n nb cap g ga oa q : Nat) (ao : Option Addr) (xs : List Value) (w : World) (hnb2 : nb ≤ 1000000000) (hn2 : n ≤ 1000000000) (hf2 : fst ≤ 4096) (hent : Ent w fst n nb ao g ga oa) (hq : (nb = 0 ∧ q = 16) ∨ (1 ≤ nb ∧ q = 4096))
    (c0 : w.cell? ⟨L, 0, none⟩ = some (.slice ao nb cap)) (c1 : w.cell? ⟨L, 1, none⟩ = some (.int .i64 fst)) (c2 : w.cell? ⟨L, 2, none⟩ = some (.int .i64 n)) (c3 : w.cell? ⟨L, 3, none⟩ = some (.slice none 0 0)) (fz : ∀ j, w.frozen? ⟨L, j, none⟩ = false) (hL : L < w.heap.size)
    (hsl : Slc w 24 1 ao nb cap xs) (hLo : L ∉ ownB ao cap)
    (K : World → Prop) (hK : ∀ ao' cap' w2, RowM w2 w.heap.size (List.replicate q zeroM) → Slc w2 24 1 ao' (nb + 1) cap' (xs ++ [.slice (some ⟨w.heap.size, 0, none⟩) q q]) → Outside (ownB ao cap) w w2 → (∀ g ∈ ownB ao' cap', g ∈ ownB ao cap ∨ w.heap.size ≤ g) → K ((w2.setCell ⟨L, 0, none⟩ (.slice ao' (nb + 1) cap')).setCell ⟨L, 3, none⟩ (.slice none 0 0))) :
    Calls Yba.prog 20 #[.pointer (some ⟨L, 0, none⟩)] w fun e w' => e = .returned (.tuple #[]) ∧ K w' := by
  obtain ⟨i24, hi24, hz0, hz1, hz2⟩ := info_parts Yba.info24
  obtain ⟨i26, hi26, hy0, hy1, hy2⟩ := info_parts Yba.info26
  have HK := hide hK
  have HSL := hide hsl
  have HLO := hide hLo
  have HLT := hide hsl.lt
  clear hK hsl hLo
  rcases hent.cases with ⟨q1, q2⟩ | ⟨rfl, q1, q2, ca⟩ | ⟨rfl, q0, q1, q2, q3, ca, ca0⟩ | ⟨rfl, q0, q1, q2, q3, q4, ca, ca0⟩
  all_goals
    clear hent
    rcases hq with ⟨qq1, rfl⟩ | ⟨qq1, rfl⟩
    all_goals try (exfalso; omega)
    clear qq1
    go_enter Yba.func20, Yba.ntmps20
    go_wp2
    go_quiet (fail)
    have tok : True := trivial
    go_wp2_with (first
      | (at_make; refine wpList_make_full _ rfl _ _ 24 rfl 0 26 i26 (.agg zeroA) 4 Yba.underlying24 hi26 hy0 hy1 .i64 .i64 _ _ _ rfl rfl (by rfl) (by rfl) (by rw [hy2]; decide) (by decide) (by simp) ?_; intro w1 hown1 hgrow1; rw [show (w.drewN nq).heap.size = w.heap.size from by simp] at hown1; have HR1 := hide (rowM_made hown1); have ho1 : Outside [] w w1 := ((Outside.refl [] w).drewN nq).trans (Outside.of_grown hgrow1 (fun k hk => by cases hk)); have HO1 := hide ho1; have c01 := ho1.cell c0 (by simp); have c31 := ho1.cell c3 (by simp); clear hown1 hgrow1 ho1)
      | (at_builtin; have _t := tok; refine wpList_append_cut _ rfl (.tmp 29) (.tmp 31) 27 rfl 24 i24 (.slice none 0 0) 1 24 Yba.underlying27 hi24 hz0 hz1 hz2 rfl (by decide) _ nb cap xs rfl (slc_new2 HSL.out HO1.out _) ⟨w1.heap.size, 0, none⟩ 1 1 [.slice (some ⟨w.heap.size, 0, none⟩) _ _] rfl rfl (new_cell _ 24 _ (by simp)) (slice_one _ rfl) (by decide) (by unfold maxLen; omega) (by omega) ?_; intro ao' cap' w2 hs2 ho2 how2; have HS2 := hide hs2; have ho : Outside (ownB _ cap) w w2 := ((HO1.out.mono (by simp)).alloc _).trans ho2; have HO := hide ho; have HW := hide (own_new how2 (B := w.heap.size) (by simp; have := HO1.out.size; omega)); have HR2 := hide ((HR1.out.outside ((Outside.refl [] w1).alloc _) (by simp)).outside ho2 (fun hm => by have := HLT.out _ hm; omega)); have c02 := cell_keep ho HLO.out c0; have c32 := cell_keep ho HLO.out c3; have f02 := fz_keep ho HLO.out hL (fz 0); have f32 := fz_keep ho HLO.out hL (fz 3); clear hs2 ho2 how2 ho _t tok))
    go_end0
    exact ⟨rfl, HK.out ao' cap' w2 HR2.out HS2.out HO.out HW.out⟩
end Go.Proofs.Ybulkduge
