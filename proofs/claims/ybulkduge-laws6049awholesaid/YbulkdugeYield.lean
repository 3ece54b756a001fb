/-
  THE WALKS OF THE LAW's TWO CLOSURES: 'LawS6049AWhole$1' (10) and '$2' (13): each appends the message to a captured slice.
-/
import Derived.Test.YbulkdugeLL
namespace Go.Proofs.Ybulkduge
open Go.RowKit
set_option linter.unusedVariables false

/-- The variable at block BG holds the slice (ao, cap) of the messages gs, in memory that came behind BG. -/
def GV (w : World) (BG : Nat) (ao : Option Addr) (cap : Nat) (gs : List Msg) : Prop :=
  w.heap[BG]? = some (.cells #[.slice ao gs.length cap] 24 (0, 0)) ∧ Slc w 26 4 ao gs.length cap (flat gs) ∧ (∀ k ∈ ownB ao cap, BG < k)

theorem mc_news {W : World} (m : Msg) (B : Nat) (hB : B = W.heap.size) : ∀ j u, (mc m)[j]? = some u → (W.alloc (.cells #[.int .i64 m.1, .int .i64 m.2.1, .int .i64 m.2.2, .nilIface] 26)).cell? ((⟨B, 0, none⟩ : Addr).add j) = some u := by
  subst hB
  intro j u hu
  have ea : (⟨W.heap.size, 0, none⟩ : Addr).add j = ⟨W.heap.size, j, none⟩ := by unfold Addr.add; split <;> simp_all
  rw [ea, cell_of_row _ _ _ _ 26 (0, 0) (heap_alloc_new W _)]
  simpa [mc] using hu

theorem mc_one (m : Msg) : ∀ u ∈ mc m, u.oneCell' = true := by
  have := flat_one [m]
  simpa [flat] using this

theorem flat_snoc (gs : List Msg) (m : Msg) : flat gs ++ mc m = flat (gs ++ [m]) := by simp [flat]

theorem GV.tag {w : World} {BG : Nat} {ao : Option Addr} {cap : Nat} {gs : List Msg} (h : GV w BG ao cap gs) : BG ∉ ownB ao cap := fun hm => by have := h.2.2 _ hm; omega

theorem slc_two {w : World} {e : TypeId} {size : Nat} {ao : Option Addr} {n cap : Nat} {xs : List Value} (h : Slc w e size ao n cap xs) (o o' : Obj) : Slc ((w.alloc o).alloc o') e size ao n cap xs :=
  h.outside (S := []) (((Outside.refl [] w).alloc o).alloc o') (by simp)

theorem gv_next {w w2 : World} {BG : Nat} {ao ao' : Option Addr} {cap cap' : Nat} {gs : List Msg} {m : Msg} (h : GV w BG ao cap gs) (o o' : Obj) (hs : Slc w2 26 4 ao' (gs.length + 1) cap' (flat gs ++ mc m)) (ho : Outside (ownB ao cap) ((w.alloc o).alloc o') w2) (how : ∀ g ∈ ownB ao' cap', g ∈ ownB ao cap ∨ ((w.alloc o).alloc o').heap.size ≤ g) :
    (w2.heap[BG]? = w.heap[BG]?) ∧ GV (w2.setCell ⟨BG, 0, none⟩ (.slice ao' (gs.length + 1) cap')) BG ao' cap' (gs ++ [m]) ∧ Outside (BG :: ownB ao cap) w (w2.setCell ⟨BG, 0, none⟩ (.slice ao' (gs.length + 1) cap')) := by
  have hlt : BG < w.heap.size := lt_of_block h.1
  have hO : Outside (ownB ao cap) w w2 := (((Outside.refl _ w).alloc o).alloc o').trans ho
  have hB : w2.heap[BG]? = w.heap[BG]? := hO.block BG hlt h.tag
  have hown : ∀ k ∈ ownB ao' cap', BG < k := fun k hk => by
    rcases how k hk with h1 | h1
    · exact h.2.2 k h1
    · simp at h1; omega
  refine ⟨hB, ⟨?_, ?_, hown⟩, ?_⟩
  · rw [one_setCell (hB.trans h.1)]
    simp
  · rw [flat_snoc] at hs
    have := hs.outside (w' := w2.setCell ⟨BG, 0, none⟩ (.slice ao' (gs.length + 1) cap')) (S := [BG]) ((Outside.refl _ w2).setCell BG 0 (.inl (by simp)) _) (fun g hg => by simp; have := hown g hg; omega)
    simpa using this
  · exact (hO.mono (by intro x hx; simp [hx])).setCell BG 0 (.inl (by simp)) _

theorem cell_eq {w w2 : World} {b i : Nat} (h : w2.heap[b]? = w.heap[b]?) : w2.cell? ⟨b, i, none⟩ = w.cell? ⟨b, i, none⟩ := World.cell?_of_block (w := w) h
theorem fz_eq {w w2 : World} {b i : Nat} (h : w2.heap[b]? = w.heap[b]?) : w2.frozen? ⟨b, i, none⟩ = w.frozen? ⟨b, i, none⟩ := World.frozen?_of_block (w := w) h

set_option maxRecDepth 100000 in
set_option maxHeartbeats 1000000 in
theorem yield_all (BG : Nat) (ao : Option Addr) (cap : Nat) (gs : List Msg) (m : Msg) (w : World) (h : GV w BG ao cap gs) (hn : gs.length ≤ 800000000) :
    Calls Yba.prog 13 #[.agg #[.int .i64 m.1, .int .i64 m.2.1, .int .i64 m.2.2, .nilIface], .pointer (some ⟨BG, 0, none⟩)] w fun e w' => e = .returned (.bool true) ∧ ∃ ao' cap', GV w' BG ao' cap' (gs ++ [m]) ∧ Outside (BG :: ownB ao cap) w w' := by
  obtain ⟨i26, hi26, hz0, hz1, hz2⟩ := info_parts Yba.info26
  have HG := hide h
  have c0 : w.cell? ⟨BG, 0, none⟩ = some (.slice ao gs.length cap) := cell_of_one h.1
  have f0 : w.frozen? ⟨BG, 0, none⟩ = false := free_of_one h.1
  have hlt : BG < w.heap.size := lt_of_block h.1
  have HS := hide h.2.1
  clear h
  go_enter Yba.func13, Yba.ntmps13
  have tok : True := trivial
  go_wp2_with (at_builtin; have _t := tok; refine wpList_append_cut _ rfl (.tmp 4) (.tmp 6) 24 rfl 26 i26 (.agg zeroA) 4 40 Yba.underlying24 hi26 hz0 hz1 hz2 rfl (by decide) ao gs.length cap (flat gs) rfl (slc_two HS.out _ _) ⟨w.heap.size + 1, 0, none⟩ 1 1 (mc m) rfl rfl (mc_news m _ (by simp)) (mc_one m) (by decide) (by unfold maxLen; omega) (by omega) ?_; intro ao' cap' w2 hs2 ho2 how2; have HN := gv_next HG.out _ _ hs2 ho2 how2; have c2 := (cell_eq (i := 0) HN.1).trans c0; have f2 := (fz_eq (i := 0) HN.1).trans f0; have HN2 := hide HN.2; clear hs2 ho2 how2 tok _t HN)
  go_ret
  exact ⟨rfl, ao', cap', HN2.out⟩

set_option maxRecDepth 100000 in
set_option maxHeartbeats 1000000 in
theorem yield_stop (BG BS stop : Nat) (ao : Option Addr) (cap : Nat) (gs : List Msg) (m : Msg) (w : World) (h : GV w BG ao cap gs) (hn : gs.length ≤ 800000000) (hst : stop ≤ 255) (cs : w.cell? ⟨BS, 0, none⟩ = some (.int .u8 stop)) (hBS : BS < BG) :
    Calls Yba.prog 10 #[.agg #[.int .i64 m.1, .int .i64 m.2.1, .int .i64 m.2.2, .nilIface], .pointer (some ⟨BG, 0, none⟩), .pointer (some ⟨BS, 0, none⟩)] w fun e w' => e = .returned (.bool (decide (stop = 0 ∨ gs.length + 1 < stop))) ∧ ∃ ao' cap', GV w' BG ao' cap' (gs ++ [m]) ∧ Outside (BG :: ownB ao cap) w w' := by
  obtain ⟨i26, hi26, hz0, hz1, hz2⟩ := info_parts Yba.info26
  have HG := hide h
  have c0 : w.cell? ⟨BG, 0, none⟩ = some (.slice ao gs.length cap) := cell_of_one h.1
  have f0 : w.frozen? ⟨BG, 0, none⟩ = false := free_of_one h.1
  have hlt : BG < w.heap.size := lt_of_block h.1
  have HS := hide h.2.1
  have hBSo : BS ∉ ownB ao cap := fun hm => by have := h.2.2 _ hm; omega
  have HBS := hide hBSo
  clear h hBSo
  by_cases h0 : stop = 0
  · subst h0
    go_enter Yba.func10, Yba.ntmps10
    have tok : True := trivial
    go_wp2_with (at_builtin; have _t := tok; refine wpList_append_cut _ rfl (.tmp 5) (.tmp 7) 24 rfl 26 i26 (.agg zeroA) 4 40 Yba.underlying24 hi26 hz0 hz1 hz2 rfl (by decide) ao gs.length cap (flat gs) rfl (slc_two HS.out _ _) ⟨w.heap.size + 1, 0, none⟩ 1 1 (mc m) rfl rfl (mc_news m _ (by simp)) (mc_one m) (by decide) (by unfold maxLen; omega) (by omega) ?_; intro ao' cap' w2 hs2 ho2 how2; have HN := gv_next HG.out _ _ hs2 ho2 how2; have c2 := (cell_eq (i := 0) HN.1).trans c0; have f2 := (fz_eq (i := 0) HN.1).trans f0; have cs2 : w2.cell? ⟨BS, 0, none⟩ = some (.int .u8 0) := ((((Outside.refl _ w).alloc _).alloc _).trans ho2).cell cs HBS.out; have HN2 := hide HN.2; clear hs2 ho2 how2 tok _t HN)
    go_ret
    exact ⟨rfl, ao', cap', HN2.out⟩
  · have hsb : ((stop : Int) == 0) = false := by rw [beq_eq_false_iff_ne]; omega
    by_cases h1 : gs.length + 1 < stop
    · have e : decide (stop = 0 ∨ gs.length + 1 < stop) = true := by simp [h1]
      rw [e]
      clear e h0
      go_enter Yba.func10, Yba.ntmps10
      have tok : True := trivial
      go_wp2_with (at_builtin; have _t := tok; refine wpList_append_cut _ rfl (.tmp 5) (.tmp 7) 24 rfl 26 i26 (.agg zeroA) 4 40 Yba.underlying24 hi26 hz0 hz1 hz2 rfl (by decide) ao gs.length cap (flat gs) rfl (slc_two HS.out _ _) ⟨w.heap.size + 1, 0, none⟩ 1 1 (mc m) rfl rfl (mc_news m _ (by simp)) (mc_one m) (by decide) (by unfold maxLen; omega) (by omega) ?_; intro ao' cap' w2 hs2 ho2 how2; have HN := gv_next HG.out _ _ hs2 ho2 how2; have c2 := (cell_eq (i := 0) HN.1).trans c0; have f2 := (fz_eq (i := 0) HN.1).trans f0; have cs2 : w2.cell? ⟨BS, 0, none⟩ = some (.int .u8 stop) := ((((Outside.refl _ w).alloc _).alloc _).trans ho2).cell cs HBS.out; have HN2 := hide HN.2; clear hs2 ho2 how2 tok _t HN)
      go_ret
      exact ⟨by simp; omega, ao', cap', HN2.out⟩
    · have e : decide (stop = 0 ∨ gs.length + 1 < stop) = false := by simp [h0, h1]
      rw [e]
      clear e h0
      go_enter Yba.func10, Yba.ntmps10
      have tok : True := trivial
      go_wp2_with (at_builtin; have _t := tok; refine wpList_append_cut _ rfl (.tmp 5) (.tmp 7) 24 rfl 26 i26 (.agg zeroA) 4 40 Yba.underlying24 hi26 hz0 hz1 hz2 rfl (by decide) ao gs.length cap (flat gs) rfl (slc_two HS.out _ _) ⟨w.heap.size + 1, 0, none⟩ 1 1 (mc m) rfl rfl (mc_news m _ (by simp)) (mc_one m) (by decide) (by unfold maxLen; omega) (by omega) ?_; intro ao' cap' w2 hs2 ho2 how2; have HN := gv_next HG.out _ _ hs2 ho2 how2; have c2 := (cell_eq (i := 0) HN.1).trans c0; have f2 := (fz_eq (i := 0) HN.1).trans f0; have cs2 : w2.cell? ⟨BS, 0, none⟩ = some (.int .u8 stop) := ((((Outside.refl _ w).alloc _).alloc _).trans ho2).cell cs HBS.out; have HN2 := hide HN.2; clear hs2 ho2 how2 tok _t HN)
      go_ret
      exact ⟨by simp; omega, ao', cap', HN2.out⟩
end Go.Proofs.Ybulkduge
