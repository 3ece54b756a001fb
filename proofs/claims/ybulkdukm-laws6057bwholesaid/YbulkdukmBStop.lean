/-
  'stopWaiting' (17) (law B).
-/
import Derived.Test.YbulkdukmBGone
namespace Go.Proofs.Ybulkdukm
open Go.RowKit
set_option linter.unusedVariables false

section
variable {w w' : World} {L : Lay} {s : Sta}
theorem Sys.k0 (h : Sys w L s) {i : Nat} (hi : i < L.n) : w.cell? ⟨L.K i, 0, none⟩ = some (.pointer (some ⟨L.T i, 0, none⟩)) := by rw [cell_of_row w _ _ _ 99 (0, 0) (h.ks.k i hi)]; rfl
theorem Sys.k1 (h : Sys w L s) {i : Nat} (hi : i < L.n) : w.cell? ⟨L.K i, 1, none⟩ = some (.pointer (some ⟨L.Nb (L.nd i), 0, none⟩)) := by rw [cell_of_row w _ _ _ 99 (0, 0) (h.ks.k i hi)]; rfl
theorem Sys.k9 (h : Sys w L s) {i : Nat} (hi : i < L.n) : w.cell? ⟨L.K i, 9, none⟩ = some (.int .i64 (s.pos i : Int)) := by rw [cell_of_row w _ _ _ 99 (0, 0) (h.ks.k i hi)]; rfl
theorem Sys.n10 (h : Sys w L s) {j : Nat} (hj : j < L.nk) : w.cell? ⟨L.Nb j, 10, none⟩ = some (.pointer (some ⟨L.Qb j, 0, none⟩)) := by rw [cell_of_row w _ _ _ 64 (0, 0) (h.ns j hj)]; rfl
theorem Sys.q40 (h : Sys w L s) {j : Nat} (hj : j < L.nk) : w.cell? ⟨L.Qb j, 40, none⟩ = some (.slice (s.ao j) (s.wl j).length (s.cp j)) := by rw [cell_of_row w _ _ _ 60 (0, 0) (h.qs.q j hj)]; rfl
theorem Sys.q41 (h : Sys w L s) {j : Nat} (hj : j < L.nk) : w.cell? ⟨L.Qb j, 41, none⟩ = some (.int .i64 (s.qa j : Int)) := by rw [cell_of_row w _ _ _ 60 (0, 0) (h.qs.q j hj)]; rfl
theorem Sys.g3 (h : Sys w L s) : w.cell? ⟨L.GB, 3, none⟩ = some (.int .i32 s.mu) := by rw [cell_of_row w _ _ _ 77 (0, 0) h.gs.g]; rfl
theorem Sys.g5 (h : Sys w L s) : w.cell? ⟨L.GB, 5, none⟩ = some (.slice s.aoN s.nl.length s.cpN) := by rw [cell_of_row w _ _ _ 77 (0, 0) h.gs.g]; rfl
theorem Sys.g6 (h : Sys w L s) : w.cell? ⟨L.GB, 6, none⟩ = some (.int .i64 s.que) := by rw [cell_of_row w _ _ _ 77 (0, 0) h.gs.g]; rfl
theorem Sys.g7 (h : Sys w L s) : w.cell? ⟨L.GB, 7, none⟩ = some (.map (some L.MB)) := by rw [cell_of_row w _ _ _ 77 (0, 0) h.gs.g]; rfl
theorem Sys.gf (h : Sys w L s) (o : Nat) : w.frozen? ⟨L.GB, o, none⟩ = false := frozen_of_row w _ _ _ 77 h.gs.g
theorem Sys.t1 (h : Sys w L s) {i : Nat} (hi : i < L.n) : w.cell? ⟨L.T i, 1, none⟩ = some (.int .u64 (L.id i : Int)) := by rw [cell_of_row w _ _ _ 94 (0, 0) (h.ts.t i hi)]; rfl
theorem Sys.t5 (h : Sys w L s) {i : Nat} (hi : i < L.n) : w.cell? ⟨L.T i, 5, none⟩ = some (if s.wt i then pv (L.K i) else .pointer none) := by rw [cell_of_row w _ _ _ 94 (0, 0) (h.ts.t i hi)]; rfl
theorem Sys.tf (h : Sys w L s) {i : Nat} (hi : i < L.n) (o : Nat) : w.frozen? ⟨L.T i, o, none⟩ = false := frozen_of_row w _ _ _ 94 (h.ts.t i hi)
theorem Sys.drew (h : Sys w L s) : Sys w.drew L s := h.outside ((Outside.refl [] w).drew) (Clear.nil L s)
theorem Sys.drewN (h : Sys w L s) (m : Nat) : Sys (w.drewN m) L s := h.outside ((Outside.refl [] w).drewN m) (Clear.nil L s)

/-- The lock's cell, the count's, written. -/
theorem Sys.lockG (h : Sys w L s) (v : Int) : Sys (w.setCell ⟨L.GB, 3, none⟩ (.int .i32 v)) L { s with mu := v, que := s.que } ∧ Fr L s w (w.setCell ⟨L.GB, 3, none⟩ (.int .i32 v)) := by
  have ho : Outside [L.GB] w (w.setCell ⟨L.GB, 3, none⟩ (.int .i32 v)) := (Outside.refl _ w).setCell _ _ (.inl (by simp)) _
  exact ⟨h.setG v s.que (by rw [heap_setCell_same w L.GB 3 _ 77 _ h.gs.g, gcells_3]) ho, _, ho, fun x hx => .inl (by simpa using hx)⟩
theorem Sys.queG (h : Sys w L s) (v : Int) : Sys (w.setCell ⟨L.GB, 6, none⟩ (.int .i64 v)) L { s with mu := s.mu, que := v } ∧ Fr L s w (w.setCell ⟨L.GB, 6, none⟩ (.int .i64 v)) := by
  have ho : Outside [L.GB] w (w.setCell ⟨L.GB, 6, none⟩ (.int .i64 v)) := (Outside.refl _ w).setCell _ _ (.inl (by simp)) _
  exact ⟨h.setG s.mu v (by rw [heap_setCell_same w L.GB 6 _ 77 _ h.gs.g, gcells_6]) ho, _, ho, fun x hx => .inl (by simpa using hx)⟩
theorem Sys.nilT (h : Sys w L s) {i : Nat} (hi : i < L.n) : Sys (w.setCell ⟨L.T i, 5, none⟩ (.pointer none)) L { s with wt := upd s.wt i false } ∧ Fr L s w (w.setCell ⟨L.T i, 5, none⟩ (.pointer none)) := by
  have ho : Outside [L.T i] w (w.setCell ⟨L.T i, 5, none⟩ (.pointer none)) := (Outside.refl _ w).setCell _ _ (.inl (by simp)) _
  exact ⟨h.setT hi false (by rw [heap_setCell_same w (L.T i) 5 _ 94 _ (h.ts.t i hi), tcells_5]; rfl) ho, _, ho, fun x hx => .inr (.inr (.inr (.inr (.inr ⟨i, hi, .inr (by simpa using hx)⟩))))⟩
theorem Sys.setT1 (h : Sys w L s) {i : Nat} (hi : i < L.n) : Sys (w.setCell ⟨L.T i, 5, none⟩ (pv (L.K i))) L { s with wt := upd s.wt i true } := by
  have ho : Outside [L.T i] w (w.setCell ⟨L.T i, 5, none⟩ (pv (L.K i))) := (Outside.refl _ w).setCell _ _ (.inl (by simp)) _
  exact h.setT hi true (by rw [heap_setCell_same w (L.T i) 5 _ 94 _ (h.ts.t i hi), tcells_5]; rfl) ho
theorem Sys.delM (h : Sys w L s) {k : Nat} (hk : k < 2 ^ 64) (hs : (s.m k).isSome = true) (ty : TypeId) : ∃ w', (Builtin.delete_ #[66, 22] ty #[.map (some L.MB), .int .u64 (k : Int)]).run Yba.prog w = .ok (.tuple #[]) w' ∧ Sys w' L { s with m := fun x => if x = k then none else s.m x, sz := s.sz - 1 } ∧ Fr L s w w' := by
  obtain ⟨w', h1, h2, h3⟩ := h.mp.del hk hs ty
  exact ⟨w', h1, h.setM h2 h3, _, h3, fun x hx => .inr (.inl (by simpa using hx))⟩
end

/-- What 'stopWaiting' makes of the graph. -/
def stop1 (L : Lay) (s : Sta) (i : Nat) : Sta := goneW { s with mu := 1, que := s.que } (L.nd i) (s.pos i)
def stopS (L : Lay) (s : Sta) (i : Nat) : Sta :=
  let s2 := if (s.wl (L.nd i)).length = 1 then goneN (stop1 L s i) (s.qa (L.nd i)) else stop1 L s i
  { s2 with mu := 0, que := wrap64 (s.que - 1), m := fun x => if x = L.id i then none else s.m x, sz := s.sz - 1, wt := upd s.wt i false }

set_option maxRecDepth 100000 in
set_option maxHeartbeats 4000000 in
theorem stop_any {w : World} {L : Lay} {s : Sta} (h : Sys w L s) (hmu : s.mu = 0) {i : Nat} (hi : i < L.n) (hj : L.nd i < L.nk) (hp : (s.wl (L.nd i))[s.pos i]? = some i) (hw : ∀ x ∈ s.wl (L.nd i), x < L.n) (hlen : (s.wl (L.nd i)).length ≤ 200000)
    (hid : L.id i < 2 ^ 64) (hm : (s.m (L.id i)).isSome = true) (hN : (s.wl (L.nd i)).length = 1 → s.nl[s.qa (L.nd i)]? = some (L.nd i) ∧ (∀ x ∈ s.nl, x < L.nk) ∧ s.nl.length ≤ 200000) (hque : -9223372036854775808 ≤ s.que ∧ s.que ≤ 9223372036854775807) :
    Calls Yba.prog 17 #[.pointer (some ⟨L.GB, 0, none⟩), .pointer (some ⟨L.K i, 0, none⟩)] w fun e w' => e = .returned (.tuple #[]) ∧ Sys w' L (stopS L s i) ∧ Fr L s w w' := by
  have x1 := h.k1 hi
  have x2 := h.n10 hj
  have x3 := h.g3
  rw [hmu] at x3
  have x4 := h.gf 3
  have hpl := (List.getElem?_eq_some_iff.1 hp).1
  have HS := hide h
  have HW := hide hw
  have HP := hide hp
  have HID := hide hid
  have HM := hide hm
  have HN := hide hN
  clear h hw hp hid hm hN
  go_enter Yba.func17, Yba.ntmps17
  go_wp2_with (go_at_call 33; go_must (refine (Go.MuLone.lock_free Yba.muLib ⟨L.GB, 3, none⟩ w x3 x4).mono ?_; rintro e w1 ⟨rfl, hw1⟩; have HS1 : Hid (Sys w1 L { s with mu := 1, que := s.que } ∧ Fr L s w w1) := (by rw [hw1]; exact HS.out.lockG 1); clear hw1))
  have y1 := HS1.out.1.k1 hi
  clear x1 x2 x3 x4
  go_region_with (go_at_call 34; go_must (refine (remW_step HS1.out.1.drew hi hj HP.out HW.out hlen).mono ?_; rintro e w2 ⟨rfl, hs2, hf2⟩; have HS2 := hide hs2; have HF2 := hide hf2; clear hs2 hf2))
  have e40 : (stop1 L s i).wl (L.nd i) = rmv (s.wl (L.nd i)) (s.pos i) 0 := by
    show upd _ _ _ _ = _
    rw [upd_same]
  have c40 : w2.cell? ⟨L.Qb (L.nd i), 40, none⟩ = some (.slice (s.ao (L.nd i)) ((s.wl (L.nd i)).length - 1) (s.cp (L.nd i))) := by
    have e := HS2.out.q40 hj
    have e' : (goneW { s with mu := 1, que := s.que } (L.nd i) (s.pos i)).wl (L.nd i) = rmv (s.wl (L.nd i)) (s.pos i) 0 := e40
    rw [e', rmv_len] at e
    exact e
  have HF1 := hide (HS1.out.2.trans (Fr.out (s := s) ((Outside.refl [] w1).drew)) (fun _ hx => hx))
  have HF12 : Hid (Fr L s w w2) := HF1.out.trans HF2.out (fun _ hx => hx)
  clear y1 HF1 HF2 HS1 e40
  by_cases hl1 : (s.wl (L.nd i)).length = 1
  · have HSR : Hid (stopS L s i = { goneN (stop1 L s i) (s.qa (L.nd i)) with mu := 0, que := wrap64 (s.que - 1), m := fun x => if x = L.id i then none else s.m x, sz := s.sz - 1, wt := upd s.wt i false }) := by show _ = _; unfold stopS; rw [if_pos hl1]
    obtain ⟨n1, n2, n3⟩ := HN.out hl1
    rw [show (s.wl (L.nd i)).length - 1 = 0 by omega] at c40
    have HN1 := hide n1
    have HN2 := hide n2
    clear hl1 n1 n2
    go_wp2
    go_region_with (go_at_call 35; go_must (refine (remN_step HS2.out.drew hj HN1.out HN2.out n3).mono ?_; rintro e w3 ⟨rfl, hs3, hf3⟩; have HS3 := hide hs3; have HF3 := hide hf3; clear hs3 hf3))
    have g6 : w3.cell? ⟨L.GB, 6, none⟩ = some (.int .i64 s.que) := HS3.out.g6
    have gf6 := HS3.out.gf 6
    clear c40
    go_wp2
    have HS4 := hide (HS3.out.queG (wrap64 (s.que - 1)))
    generalize w3.setCell ⟨L.GB, 6, none⟩ (.int .i64 (wrap64 (s.que - 1))) = w4 at *
    obtain ⟨w5, hrun, hs5, hf5⟩ := HS4.out.1.drew.delM HID.out HM.out 0
    have g7 := HS4.out.1.g7
    have z0 := HS4.out.1.k0 hi
    have z1 := HS4.out.1.t1 hi
    have u0 := hs5.k0 hi
    have u3 : w5.cell? ⟨L.GB, 3, none⟩ = some (.int .i32 1) := hs5.g3
    have uf := hs5.gf 3
    have HS5 := hide hs5
    have HF5 := hide hf5
    clear hs5 hf5 g6 gf6
    go_region
    clear hrun g7 z0 z1
    have HS6 := hide (HS5.out.lockG 0)
    have u6 := HS6.out.1.k0 hi
    have t6 := HS6.out.1.t5 hi
    have tf6 := HS6.out.1.tf hi 5
    go_wp2_with (first
      | (go_at_call 19; go_must (refine (Go.MuLone.unlock_held Yba.muLib ⟨L.GB, 3, none⟩ w5 u3 uf).mono ?_; rintro e w6 ⟨rfl, rfl⟩))
      | (go_at_call 12; go_must (refine (store_nil ⟨L.T i, 5, none⟩ _ _ t6 tf6).mono ?_; rintro e w7 ⟨rfl, rfl⟩)))
    have HS7 := hide (HS6.out.1.nilT hi)
    go_end0
    refine ⟨rfl, ?_, ?_⟩
    · rw [HSR.out]
      exact HS7.out.1
    · exact ((((((HF12.out.trans (Fr.out (s := s) ((Outside.refl [] w2).drew)) (fun _ hx => hx)).trans HF3.out (fun _ hx => hx)).trans HS4.out.2 (fun _ hx => hx)).trans (Fr.out (s := s) ((Outside.refl [] w4).drew)) (fun _ hx => hx)).trans HF5.out (fun _ hx => hx)).trans HS6.out.2 (fun _ hx => hx)).trans HS7.out.2 (fun _ hx => hx)
  · have HSR : Hid (stopS L s i = { stop1 L s i with mu := 0, que := wrap64 (s.que - 1), m := fun x => if x = L.id i then none else s.m x, sz := s.sz - 1, wt := upd s.wt i false }) := by show _ = _; unfold stopS; rw [if_neg hl1]
    obtain ⟨q, hq⟩ : ∃ q, (s.wl (L.nd i)).length - 1 = q + 1 := ⟨(s.wl (L.nd i)).length - 2, by omega⟩
    rw [hq] at c40
    have hq2 : q + 1 ≤ 200000 := by omega
    have g6 : w2.cell? ⟨L.GB, 6, none⟩ = some (.int .i64 s.que) := HS2.out.g6
    have gf6 := HS2.out.gf 6
    clear hq hl1
    go_wp2
    have HS4 := hide (HS2.out.queG (wrap64 (s.que - 1)))
    generalize w2.setCell ⟨L.GB, 6, none⟩ (.int .i64 (wrap64 (s.que - 1))) = w4 at *
    obtain ⟨w5, hrun, hs5, hf5⟩ := HS4.out.1.drew.delM HID.out HM.out 0
    have g7 := HS4.out.1.g7
    have z0 := HS4.out.1.k0 hi
    have z1 := HS4.out.1.t1 hi
    have u0 := hs5.k0 hi
    have u3 : w5.cell? ⟨L.GB, 3, none⟩ = some (.int .i32 1) := hs5.g3
    have uf := hs5.gf 3
    have HS5 := hide hs5
    have HF5 := hide hf5
    clear hs5 hf5 g6 gf6
    go_region
    clear hrun g7 z0 z1
    have HS6 := hide (HS5.out.lockG 0)
    have u6 := HS6.out.1.k0 hi
    have t6 := HS6.out.1.t5 hi
    have tf6 := HS6.out.1.tf hi 5
    go_wp2_with (first
      | (go_at_call 19; go_must (refine (Go.MuLone.unlock_held Yba.muLib ⟨L.GB, 3, none⟩ w5 u3 uf).mono ?_; rintro e w6 ⟨rfl, rfl⟩))
      | (go_at_call 12; go_must (refine (store_nil ⟨L.T i, 5, none⟩ _ _ t6 tf6).mono ?_; rintro e w7 ⟨rfl, rfl⟩)))
    have HS7 := hide (HS6.out.1.nilT hi)
    go_end0
    refine ⟨rfl, ?_, ?_⟩
    · rw [HSR.out]
      exact HS7.out.1
    · exact ((((HF12.out.trans HS4.out.2 (fun _ hx => hx)).trans (Fr.out (s := s) ((Outside.refl [] w4).drew)) (fun _ hx => hx)).trans HF5.out (fun _ hx => hx)).trans HS6.out.2 (fun _ hx => hx)).trans HS7.out.2 (fun _ hx => hx)

end Go.Proofs.Ybulkdukm
