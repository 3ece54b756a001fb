/-
  THE WALK OF '(*messageList).grow' (20), where a block is appended: the spare one, or a new one.
-/
import Derived.Test.YbulkdugeGrow
namespace Go.Proofs.Ybulkduge
open Go.RowKit
set_option linter.unusedVariables false

theorem new_cell {W : World} (v : Value) (t : TypeId) (B : Nat) (hB : B = W.heap.size) : ∀ j u, [v][j]? = some u → (W.alloc (.cells #[v] t)).cell? ((⟨B, 0, none⟩ : Addr).add j) = some u := by
  subst hB
  intro j u hu
  match j, hu with
  | 0, hu => simp at hu; subst hu; simp [Addr.add]

theorem slc_new {w : World} {ao : Option Addr} {nb cap : Nat} {xs : List Value} (h : Slc w 24 1 ao nb cap xs) (nq : Nat) (o : Obj) : Slc ((w.drewN nq).alloc o) 24 1 ao nb cap xs :=
  h.outside (S := []) (((Outside.refl [] w).drewN nq).alloc o) (by simp)

theorem slc_new2 {w w1 : World} {ao : Option Addr} {nb cap : Nat} {xs : List Value} (h : Slc w 24 1 ao nb cap xs) (ho : Outside [] w w1) (o : Obj) : Slc (w1.alloc o) 24 1 ao nb cap xs :=
  h.outside (S := []) (ho.alloc o) (by simp)

theorem slice_one (v : Value) (h : v.oneCell' = true) : ∀ u ∈ [v], u.oneCell' = true := by
  intro u hu
  simp at hu
  subst hu
  exact h

theorem cell_keep {w w2 : World} {S : List Nat} {L i : Nat} {v : Value} (h : Outside S w w2) (hn : L ∉ S) (hc : w.cell? ⟨L, i, none⟩ = some v) : w2.cell? ⟨L, i, none⟩ = some v := h.cell hc hn
theorem fz_keep {w w2 : World} {S : List Nat} {L i : Nat} (h : Outside S w w2) (hn : L ∉ S) (hL : L < w.heap.size) (hf : w.frozen? ⟨L, i, none⟩ = false) : w2.frozen? ⟨L, i, none⟩ = false := by
  rw [World.frozen?_of_block (w := w) (h.block L hL hn)]
  exact hf
theorem own_new {ao ao' : Option Addr} {cap cap' B : Nat} {W : World} (h : ∀ g ∈ ownB ao' cap', g ∈ ownB ao cap ∨ W.heap.size ≤ g) (hB : B ≤ W.heap.size) : ∀ g ∈ ownB ao' cap', g ∈ ownB ao cap ∨ B ≤ g := by
  intro g hg
  rcases h g hg with h1 | h1
  · exact .inl h1
  · exact .inr (by omega)

/-- How the walk of 'grow' comes to append a block. -/
def Ent (w : World) (fst n nb : Nat) (ao : Option Addr) (g ga oa : Nat) : Prop :=
  nb = 0 ∨ (ao = some ⟨ga, oa, none⟩ ∧ w.cell? ⟨ga, oa + (nb - 1), none⟩ = some (.slice (some ⟨g, 0, none⟩) 4096 4096) ∧ (2 ≤ nb ∨ (nb = 1 ∧ fst = 0) ∨ (nb = 1 ∧ 1 ≤ fst ∧ 2048 < n)))

theorem Ent.cases {w : World} {fst n nb : Nat} {ao : Option Addr} {g ga oa : Nat} (h : Ent w fst n nb ao g ga oa) :
    (nb ≤ 0 ∧ ((nb : Int) - 1 == 0) = false) ∨
    (ao = some ⟨ga, oa, none⟩ ∧ 2 ≤ nb ∧ ((nb : Int) - 1 == 0) = false ∧ w.cell? ⟨ga, oa + (nb - 1), none⟩ = some (.slice (some ⟨g, 0, none⟩) 4096 4096)) ∨
    (ao = some ⟨ga, oa, none⟩ ∧ 1 ≤ nb ∧ nb ≤ 1 ∧ ((nb : Int) - 1 == 0) = true ∧ decide (0 < fst) = false ∧ w.cell? ⟨ga, oa + (nb - 1), none⟩ = some (.slice (some ⟨g, 0, none⟩) 4096 4096) ∧ w.cell? ⟨ga, oa, none⟩ = some (.slice (some ⟨g, 0, none⟩) 4096 4096)) ∨
    (ao = some ⟨ga, oa, none⟩ ∧ 1 ≤ nb ∧ nb ≤ 1 ∧ ((nb : Int) - 1 == 0) = true ∧ decide (0 < fst) = true ∧ decide ((n : Int) ≤ 2048) = false ∧ w.cell? ⟨ga, oa + (nb - 1), none⟩ = some (.slice (some ⟨g, 0, none⟩) 4096 4096) ∧ w.cell? ⟨ga, oa, none⟩ = some (.slice (some ⟨g, 0, none⟩) 4096 4096)) := by
  rcases h with h | ⟨h1, h2, h3 | ⟨h3, h4⟩ | ⟨h3, h4, h5⟩⟩
  · exact .inl ⟨by omega, by rw [beq_eq_false_iff_ne]; omega⟩
  · exact .inr (.inl ⟨h1, h3, by rw [beq_eq_false_iff_ne]; omega, h2⟩)
  · subst h3
    exact .inr (.inr (.inl ⟨h1, by omega, by omega, by decide, by simp; omega, h2, h2⟩))
  · subst h3
    exact .inr (.inr (.inr ⟨h1, by omega, by omega, by decide, by simp; omega, by simp; omega, h2, h2⟩))

set_option maxRecDepth 100000 in
set_option maxHeartbeats 4000000 in
theorem grow_spare (L fst n nb cap gs lens g ga oa : Nat) (ao : Option Addr) (xs : List Value) (w : World) (hnb2 : nb ≤ 1000000000) (hn2 : n ≤ 1000000000) (hf2 : fst ≤ 4096) (hent : Ent w fst n nb ao g ga oa)
    (c0 : w.cell? ⟨L, 0, none⟩ = some (.slice ao nb cap)) (c1 : w.cell? ⟨L, 1, none⟩ = some (.int .i64 fst)) (c2 : w.cell? ⟨L, 2, none⟩ = some (.int .i64 n)) (c3 : w.cell? ⟨L, 3, none⟩ = some (.slice (some ⟨gs, 0, none⟩) lens lens)) (fz : ∀ j, w.frozen? ⟨L, j, none⟩ = false) (hL : L < w.heap.size)
    (hsl : Slc w 24 1 ao nb cap xs) (hLo : L ∉ ownB ao cap)
    (K : World → Prop) (hK : ∀ ao' cap' w2, Slc w2 24 1 ao' (nb + 1) cap' (xs ++ [.slice (some ⟨gs, 0, none⟩) lens lens]) → Outside (ownB ao cap) w w2 → (∀ g ∈ ownB ao' cap', g ∈ ownB ao cap ∨ w.heap.size ≤ g) → K ((w2.setCell ⟨L, 0, none⟩ (.slice ao' (nb + 1) cap')).setCell ⟨L, 3, none⟩ (.slice none 0 0))) :
    Calls Yba.prog 20 #[.pointer (some ⟨L, 0, none⟩)] w fun e w' => e = .returned (.tuple #[]) ∧ K w' := by
  obtain ⟨i24, hi24, hz0, hz1, hz2⟩ := info_parts Yba.info24
  have HK := hide hK
  have HSL := hide hsl
  have HLO := hide hLo
  clear hK hsl hLo
  rcases hent.cases with ⟨q1, q2⟩ | ⟨rfl, q1, q2, ca⟩ | ⟨rfl, q0, q1, q2, q3, ca, ca0⟩ | ⟨rfl, q0, q1, q2, q3, q4, ca, ca0⟩
  all_goals
    clear hent
    go_enter Yba.func20, Yba.ntmps20
    go_wp2
    go_quiet (fail)
    have tok : True := trivial
    go_wp2_with (at_builtin; have _t := tok; refine wpList_append_cut _ rfl (.tmp 29) (.tmp 31) 27 rfl 24 i24 (.slice none 0 0) 1 24 Yba.underlying27 hi24 hz0 hz1 hz2 rfl (by decide) _ nb cap xs rfl (slc_new HSL.out _ _) ⟨w.heap.size, 0, none⟩ 1 1 [.slice (some ⟨gs, 0, none⟩) lens lens] rfl rfl (new_cell _ 24 _ (by simp)) (slice_one _ rfl) (by decide) (by unfold maxLen; omega) (by omega) ?_; intro ao' cap' w2 hs2 ho2 how2; have HS2 := hide hs2; have ho : Outside (ownB _ cap) w w2 := (((Outside.refl _ w).drewN nq).alloc _).trans ho2; have HO := hide ho; have HW := hide (own_new how2 (B := w.heap.size) (by simp)); have c02 := cell_keep ho HLO.out c0; have c32 := cell_keep ho HLO.out c3; have f02 := fz_keep ho HLO.out hL (fz 0); have f32 := fz_keep ho HLO.out hL (fz 3); clear hs2 ho2 how2 ho _t tok)
    go_end0
    exact ⟨rfl, HK.out ao' cap' w2 HS2.out HO.out HW.out⟩
end Go.Proofs.Ybulkduge
