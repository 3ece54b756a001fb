/-
  THE WALK OF '(*messageList).grow' (20).
-/
import Derived.Test.YbulkdugePopAny
import Derived.Test.YbulkdugeCopy
namespace Go.Proofs.Ybulkduge
open Go.RowKit
set_option linter.unusedVariables false

theorem Yba.info26 : (Yba.prog.info? 26).map (fun i => (i.zero, i.size, i.bytes)) = some (some (.agg zeroA), 4, 40) := by kernel_rfl
theorem Yba.info24 : (Yba.prog.info? 24).map (fun i => (i.zero, i.size, i.bytes)) = some (some (.slice none 0 0), 1, 24) := by kernel_rfl

theorem run_cut4 (g len l : Nat) (hl : l < len) (W : World) :
    (Instr.slice 24 (.slice (some ⟨g, 0, none⟩) len len) (some (.int .i64 (l : Int))) none none).run Yba.prog W = .ok (.slice (some ⟨g, l * 4, none⟩) (len - l) (len - l)) W := by
  have := run_cut (P := Yba.prog) 24 26 4 Yba.underlying24 Yba.size26 g 0 len len l (by omega) W
  rw [this]
  have h : ¬ len = l := by omega
  simp [cutA, h]

theorem cells_from_row {w : World} {g : Nat} {ms : List Msg} (h : RowM w g ms) (l : Nat) : ∀ j v, (flat (ms.drop l))[j]? = some v → w.cell? ((⟨g, l * 4, none⟩ : Addr).add j) = some v := by
  intro j v hv
  have ea : (⟨g, l * 4, none⟩ : Addr).add j = ⟨g, l * 4 + j, none⟩ := by unfold Addr.add; split <;> simp_all
  rw [ea, cell_of_row w g _ _ 26 (0, 0) h]
  rw [← flat_drop, List.getElem?_drop] at hv
  simpa using hv

theorem row_cells {w : World} {g : Nat} {ms : List Msg} (h : RowM w g ms) : ∀ j v, (flat ms)[j]? = some v → w.cell? ((⟨g, 0, none⟩ : Addr).add j) = some v := by
  have := cells_from_row h 0
  simpa using this

theorem fz_out {w w' : World} {g i : Nat} {v : Value} (h : Outside [] w w') (hc : w.cell? ⟨g, i, none⟩ = some v) (hf : w.frozen? ⟨g, i, none⟩ = false) : w'.frozen? ⟨g, i, none⟩ = false := by
  rw [World.frozen?_of_block (w := w) (h.block g (World.block_lt_of_cell? w _ hc) (by simp))]
  exact hf

theorem fz_later {w w1 w2 : World} {nq g L i : Nat} {v : Value} (h1 : Outside [g] (w.drewN nq) w1) (h2 : Outside [g] w1 w2) (hc : w.cell? ⟨L, i, none⟩ = some v) (hf : w.frozen? ⟨L, i, none⟩ = false) (hne : L ≠ g) : w2.frozen? ⟨L, i, none⟩ = false := by
  have hlt : L < (w.drewN nq).heap.size := by simpa using World.block_lt_of_cell? w _ hc
  have e1 := h1.block L hlt (by simpa using hne)
  have e2 := h2.block L (Nat.lt_of_lt_of_le hlt h1.size) (by simpa using hne)
  rw [World.frozen?_of_block (w := w.drewN nq) (e2.trans e1)]
  simpa using hf

set_option maxRecDepth 100000 in
set_option maxHeartbeats 1000000 in
theorem grow_shift (L fst n g len ga oa cap : Nat) (ms : List Msg) (w : World) (hf0 : 1 ≤ fst) (hfl : fst < len) (hl4 : len ≤ 4096) (hfn : fst + n = len) (hn : n ≤ len / 2)
    (c0 : w.cell? ⟨L, 0, none⟩ = some (.slice (some ⟨ga, oa, none⟩) 1 cap)) (c1 : w.cell? ⟨L, 1, none⟩ = some (.int .i64 fst)) (c2 : w.cell? ⟨L, 2, none⟩ = some (.int .i64 n)) (fz : ∀ j, w.frozen? ⟨L, j, none⟩ = false) (hgL : g ≠ L)
    (ca : w.cell? ⟨ga, oa, none⟩ = some (.slice (some ⟨g, 0, none⟩) len len)) (hr : RowM w g ms) (hms : ms.length = len)
    (K : World → Prop) (hK : ∀ w2, RowM w2 g (ms.drop fst ++ List.replicate (len - n) zeroM) → Outside [g] w w2 → K (w2.setCell ⟨L, 1, none⟩ (.int .i64 0))) :
    Calls Yba.prog 20 #[.pointer (some ⟨L, 0, none⟩)] w fun e w' => e = .returned (.tuple #[]) ∧ K w' := by
  obtain ⟨i26, hi26, hz0, hz1, hz2⟩ := info_parts Yba.info26
  have HK := hide hK
  have HR := hide hr
  have HM := hide hms
  have HF := hide hfn
  have hcut1 := run_cut4 g len fst hfl
  have hcut2 := run_cut4 g len n (by omega)
  have hg1 : decide (0 < fst) = true := by simp; omega
  have hg2 : decide ((n : Int) ≤ (len : Int) / 2) = true := by simp; omega
  have hn' : n + fst ≤ len := by omega
  clear hK hr hms hfn
  go_enter Yba.func20, Yba.ntmps20
  go_wp2
  go_quiet (fail)
  have tok1 : True := trivial
  have HRd : Hid (RowM (w.drewN nq) g ms) := (HR.out.outside ((Outside.refl [] w).drewN nq) (by simp))
  have HS : Hid (∀ j v, (flat (ms.drop fst))[j]? = some v → (w.drewN nq).cell? ((⟨g, fst * 4, none⟩ : Addr).add j) = some v) := cells_from_row HRd.out fst
  have hLg : L ≠ g := fun e => hgL e.symm
  have HA1 : Hid ((ms.drop fst).length = Nat.min (len - fst) len) := by show _ = _; rw [List.length_drop, HM.out]; exact (Nat.min_eq_left (by omega)).symm
  have HA2 : Hid ((ms.drop fst).length ≤ ms.length) := by show _ ≤ _; rw [List.length_drop]; omega
  have HA3 : Hid (n + (len - n) = (ms.drop fst ++ ms.drop (ms.drop fst).length).length) := by show _ = _; rw [List.length_append, List.length_drop, List.length_drop, HM.out]; omega
  go_wp2_with (first
    | (have _t := tok1; refine wpList_copy_msgs rfl (.tmp 68) (.tmp 74) 24 24 rfl Yba.underlying24 Yba.size26 g len len ⟨g, fst * 4, none⟩ (len - fst) (len - fst) rfl rfl ms (ms.drop fst) HRd.out HA1.out HS.out HA2.out ?_; intro w1 hr1 ho1; have HR1 := hide hr1; have HO1 := hide ho1; have c21 : w1.cell? ⟨L, 2, none⟩ = some (.int .i64 n) := ho1.cell (by simpa using c2) (by simpa using hLg); clear hr1 ho1 tok1 _t)
    | (have _t := HR1; refine wpList_clear_msgs rfl (.tmp 81) 24 rfl Yba.underlying24 i26 hi26 hz0 g n (len - n) (len - n) rfl _ HR1.out (by omega) HA3.out ?_; intro w2 hr2 ho2; have HR2 := hide hr2; have HO2 := hide ho2; have c12 : w2.cell? ⟨L, 1, none⟩ = some (.int .i64 fst) := ho2.cell (HO1.out.cell (by simpa using c1) (by simpa using hLg)) (by simpa using hLg); have f12 : w2.frozen? ⟨L, 1, none⟩ = false := fz_later HO1.out HO2.out c1 (fz 1) hLg; clear hr2 ho2 HR1 _t))
  go_end0
  refine ⟨rfl, HK.out w2 ?_ (((Outside.refl _ w).drewN nq).trans (HO1.out.trans HO2.out))⟩
  have e : (ms.drop fst ++ ms.drop (ms.drop fst).length).take n = ms.drop fst := by
    have hl : (ms.drop fst).length = n := by rw [List.length_drop, HM.out]; have := HF.out; omega
    rw [List.take_append_of_le_length (by omega), List.take_of_length_le (by omega)]
  rw [← e]
  exact HR2.out

end Go.Proofs.Ybulkduge
