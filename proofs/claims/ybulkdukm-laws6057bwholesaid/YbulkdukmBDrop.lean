/-
  'zzs6057bdrop' (15, 16) (law B).
-/
import Derived.Test.YbulkdukmBRem
namespace Go.Proofs.Ybulkdukm
open Go.RowKit
set_option linter.unusedVariables false

theorem Yba.info44 : (Yba.prog.info? 44).map (fun i => (i.zero, i.size, i.bytes)) = some (some (.pointer none), 1, 8) := by kernel_rfl
/-- n nil pointers. -/
def nilp (n : Nat) : Array Value := (List.replicate n (Value.pointer none)).toArray
theorem made_nilp (n : Nat) : madeCells (Value.pointer none).cells (n * 1) = nilp n := by
  unfold madeCells nilp
  apply Array.ext_getElem?
  intro i
  by_cases h : i < n
  · simp [h, Value.cells, Nat.mod_one]
  · simp [h]

/-- A slice of the call's own. -/
structure Own1 (w0 w : World) (e : TypeId) (size : Nat) (ao : Option Addr) (n cap : Nat) (xs : List Value) : Prop where
  slc : Slc w e size ao n cap xs
  own : ∀ g ∈ ownB ao cap, w0.heap.size ≤ g
  out : Outside [] w0 w
theorem Own1.outside {w0 w w' : World} {e : TypeId} {size : Nat} {ao : Option Addr} {n cap : Nat} {xs : List Value} (h : Own1 w0 w e size ao n cap xs) (ho : Outside [] w w') : Own1 w0 w' e size ao n cap xs :=
  ⟨h.slc.outside ho (by simp), h.own, h.out.trans ho⟩
theorem Own1.next {w0 w w2 : World} {e : TypeId} {size : Nat} {ao ao' : Option Addr} {n m cap cap' : Nat} {xs ys : List Value} (h : Own1 w0 w e size ao n cap xs) (ob : Obj)
    (hs : Slc w2 e size ao' (n + m) cap' ys) (ho : Outside (ownB ao cap) (w.alloc ob) w2) (how : ∀ g ∈ ownB ao' cap', g ∈ ownB ao cap ∨ (w.alloc ob).heap.size ≤ g) : Own1 w0 w2 e size ao' (n + m) cap' ys := by
  refine ⟨hs, fun g hg => ?_, h.out.then (((Outside.refl _ w).alloc ob).trans ho) (fun x hx => .inr (h.own x hx))⟩
  rcases how g hg with h1 | h1
  · exact h.own g h1
  · simp at h1
    have := h.out.size
    omega
theorem Own1.made (w : World) (e : TypeId) (n : Nat) (hn : n ≤ maxLen) : Own1 w (w.alloc (.cells (nilp n) e)) e 1 (some ⟨w.heap.size, 0, none⟩) 0 n [] := by
  have h := Slc.made w e 1 (nilp n) 0 n (Nat.zero_le _) hn (by simp [nilp])
  refine ⟨by simpa using h, fun g hg => ?_, (Outside.refl _ _).alloc _⟩
  simp only [ownB] at hg
  split at hg
  · simp at hg
  · simp at hg; omega
theorem pv_news' {W : World} (b B : Nat) (t : TypeId) (hB : B = W.heap.size) : ∀ j u, [pv b][j]? = some u → (W.alloc (.cells #[pv b] t)).cell? ((⟨B, 0, none⟩ : Addr).add j) = some u := by
  subst hB
  intro j u hu
  have ea : (⟨W.heap.size, 0, none⟩ : Addr).add j = ⟨W.heap.size, j, none⟩ := by unfold Addr.add; split <;> simp_all
  rw [ea, cell_of_row _ _ _ _ t (0, 0) (heap_alloc_new W _)]
  simpa using hu
theorem take_snoc {α : Type} {l : List α} {q : Nat} {x : α} (h : l[q]? = some x) : l.take (q + 1) = l.take q ++ [x] := by
  have hq := (List.getElem?_eq_some_iff.1 h)
  rw [List.take_succ_eq_append_getElem hq.1, hq.2]

theorem mk_room78b (n : Nat) (hn : n ≤ 200000) (W : World) : (Instr.makeSlice 78 (.int .i64 0) (.int .i64 (n : Int))).run Yba.prog W = .ok (.slice (some ⟨W.heap.size, 0, none⟩) 0 n) (W.alloc (.cells (nilp n) 46)) := by
  obtain ⟨i, hi, hz0, hz1, hz2⟩ := info_parts Yba.info46
  have := run_make (P := Yba.prog) W 78 46 i (.pointer none) Yba.underlying78 hi hz0 .i64 .i64 0 (n : Int) (by omega) (by omega) (by rw [hz2]; omega) (by omega)
  rw [this, hz1, Int.toNat_natCast, made_nilp]
  rfl
theorem mk_full78b (n : Nat) (hn : n ≤ 200000) (W : World) : (Instr.makeSlice 78 (.int .i64 (n : Int)) (.int .i64 (n : Int))).run Yba.prog W = .ok (.slice (some ⟨W.heap.size, 0, none⟩) n n) (W.alloc (.cells (nilp n) 46)) := by
  obtain ⟨i, hi, hz0, hz1, hz2⟩ := info_parts Yba.info46
  have := run_make (P := Yba.prog) W 78 46 i (.pointer none) Yba.underlying78 hi hz0 .i64 .i64 (n : Int) (n : Int) (by omega) (by omega) (by rw [hz2]; omega) (by omega)
  rw [this, hz1, Int.toNat_natCast, made_nilp]

set_option maxRecDepth 100000 in
set_option maxHeartbeats 2000000 in
theorem drop_w (ao : Option Addr) (cap p : Nat) (gs : List Nat) (w : World) (hs : Slc w 46 1 ao gs.length cap (pvs gs)) (h0 : 0 < gs.length) (hn : gs.length ≤ 200000) (hp : p < gs.length) :
    Calls Yba.prog 15 #[.slice ao gs.length cap, .int .i64 (p : Int)] w fun e w' => ∃ ao' cp, e = .returned (.slice ao' (gs.length - 1) cp) ∧ Own1 w w' 46 1 ao' (gs.length - 1) cp (pvs (rmv gs p 0)) := by
  obtain ⟨ie, hie, hz0, hz1, hz2⟩ := info_parts Yba.info46
  have hcap : 0 < cap := by have := hs.2.1; omega
  obtain ⟨g, off, _, rfl, _⟩ := hs.at_ hcap
  obtain ⟨n, hn1⟩ : ∃ n, gs.length = n + 1 := ⟨gs.length - 1, by omega⟩
  have hcell : ∀ q, q < n + 1 → w.cell? ⟨g, off + q, none⟩ = (gs[q]?).map pv := fun q hq => by
    rw [hs.cell hcap q (by omega)]
    simp [pvs]
  have HC := hide hcell
  have HRL : Hid ((rmv gs p 0).length = n) := by show _ = _; rw [rmv_len]; omega
  have HRG : Hid (∀ q, q < n → (rmv gs p 0)[q]? = if q = p then gs[n]? else gs[q]?) := fun q hq => by
    rw [rmv_get (by omega), hn1]
    rfl
  have HN := hide hn1
  have hmk := mk_room78b n (by omega)
  have hnn : n + 1 ≤ 200000 := by omega
  rw [hn1]
  rw [show n + 1 - 1 = n by omega]
  have hp' : p < n + 1 := by omega
  clear hs hcell h0 hn hp hn1
  generalize rmv gs p 0 = rs at *
  go_enter Yba.func15, Yba.ntmps15
  go_wp2
  go_loopw [6, 7] (fun v iv wr => ∃ (q : Nat) (a2 : Option Addr) (c2 : Nat), q ≤ n ∧ v = .slice a2 q c2 ∧ iv = .int .i64 (q : Int) ∧ Own1 w wr 46 1 a2 q c2 (pvs (rs.take q))) (fun _ iv _ => n - (intOf iv).toNat)
  case atStart => exact ⟨0, _, _, Nat.zero_le _, rfl, rfl, Own1.made w 46 n (by unfold maxLen; omega)⟩
  case round =>
    obtain ⟨q, a2, c2, hq, rfl, rfl, hown⟩ := hrel
    have HO := hide hown
    clear hown
    by_cases hqn : q < n
    · by_cases hqp : q = p
      · subst hqp
        have x0 := HC.out n (by omega)
        obtain ⟨b, hb⟩ : ∃ b, gs[n]? = some b := ⟨_, List.getElem?_eq_getElem (by have := HN.out; omega)⟩
        rw [hb] at x0
        have y0 := HO.out.out.cell x0 (by simp)
        unfold pv at y0
        have HT := hide (take_snoc (x := b) (by rw [HRG.out q hqn, if_pos rfl, hb]))
        have t0 : ((q : Int) == (q : Int)) = true := by simp
        clear x0 hb
        obtain ⟨wo, rfl⟩ : ∃ wo : World, wo = wr := ⟨_, rfl⟩
        have tok : True := trivial
        go_wp2_with (at_builtin; go_must (have _t := tok; refine wpList_append_cut _ rfl (.tmp 21) (.tmp 26) 78 rfl 46 ie (.pointer none) 1 8 Yba.underlying78 hie hz0 hz1 hz2 rfl (by decide) a2 q c2 (pvs (rs.take q)) rfl (slc_alloc HO.out.slc _) ⟨wo.heap.size, 0, none⟩ 1 1 [pv b] rfl rfl (pv_news' b _ 46 rfl) (pvs_one [b]) (by decide) (by unfold maxLen; omega) (by omega) ?_; intro ao' cap' w2 hs2 ho2 how2; have HNX := hide (HO.out.next _ hs2 ho2 how2); clear hs2 ho2 how2 tok _t))
        go_roundw
        case rel =>
          refine ⟨q + 1, ao', cap', by omega, rfl, by go_num, ?_⟩
          rw [HT.out, ← pvs_snoc]
          exact HNX.out
        case measure => simp [intOf]; omega
      · have x0 := HC.out q (by omega)
        obtain ⟨b, hb⟩ : ∃ b, gs[q]? = some b := ⟨_, List.getElem?_eq_getElem (by have := HN.out; omega)⟩
        rw [hb] at x0
        have y0 := HO.out.out.cell x0 (by simp)
        unfold pv at y0
        have HT := hide (take_snoc (x := b) (by rw [HRG.out q hqn, if_neg hqp, hb]))
        have t0 : ((q : Int) == (p : Int)) = false := by rw [beq_eq_false_iff_ne]; omega
        clear x0 hb
        obtain ⟨wo, rfl⟩ : ∃ wo : World, wo = wr := ⟨_, rfl⟩
        have tok : True := trivial
        go_wp2_with (at_builtin; go_must (have _t := tok; refine wpList_append_cut _ rfl (.tmp 28) (.tmp 33) 78 rfl 46 ie (.pointer none) 1 8 Yba.underlying78 hie hz0 hz1 hz2 rfl (by decide) a2 q c2 (pvs (rs.take q)) rfl (slc_alloc HO.out.slc _) ⟨wo.heap.size, 0, none⟩ 1 1 [pv b] rfl rfl (pv_news' b _ 46 rfl) (pvs_one [b]) (by decide) (by unfold maxLen; omega) (by omega) ?_; intro ao' cap' w2 hs2 ho2 how2; have HNX := hide (HO.out.next _ hs2 ho2 how2); clear hs2 ho2 how2 tok _t))
        go_roundw
        case rel =>
          refine ⟨q + 1, ao', cap', by omega, rfl, by go_num, ?_⟩
          rw [HT.out, ← pvs_snoc]
          exact HNX.out
        case measure => simp [intOf]; omega
    · obtain rfl : q = n := by omega
      go_wp2
      go_ret
      refine ⟨a2, c2, rfl, ?_⟩
      have e := HO.out
      rw [List.take_of_length_le (by have := HRL.out; omega)] at e
      exact e

theorem mk_room43b (n : Nat) (hn : n ≤ 200000) (W : World) : (Instr.makeSlice 43 (.int .i64 0) (.int .i64 (n : Int))).run Yba.prog W = .ok (.slice (some ⟨W.heap.size, 0, none⟩) 0 n) (W.alloc (.cells (nilp n) 44)) := by
  obtain ⟨i, hi, hz0, hz1, hz2⟩ := info_parts Yba.info44
  have := run_make (P := Yba.prog) W 43 44 i (.pointer none) Yba.underlying43 hi hz0 .i64 .i64 0 (n : Int) (by omega) (by omega) (by rw [hz2]; omega) (by omega)
  rw [this, hz1, Int.toNat_natCast, made_nilp]
  rfl
theorem mk_full43b (n : Nat) (hn : n ≤ 200000) (W : World) : (Instr.makeSlice 43 (.int .i64 (n : Int)) (.int .i64 (n : Int))).run Yba.prog W = .ok (.slice (some ⟨W.heap.size, 0, none⟩) n n) (W.alloc (.cells (nilp n) 44)) := by
  obtain ⟨i, hi, hz0, hz1, hz2⟩ := info_parts Yba.info44
  have := run_make (P := Yba.prog) W 43 44 i (.pointer none) Yba.underlying43 hi hz0 .i64 .i64 (n : Int) (n : Int) (by omega) (by omega) (by rw [hz2]; omega) (by omega)
  rw [this, hz1, Int.toNat_natCast, made_nilp]

set_option maxRecDepth 100000 in
set_option maxHeartbeats 2000000 in
theorem drop_n (ao : Option Addr) (cap p : Nat) (gs : List Nat) (w : World) (hs : Slc w 44 1 ao gs.length cap (pvs gs)) (h0 : 0 < gs.length) (hn : gs.length ≤ 200000) (hp : p < gs.length) :
    Calls Yba.prog 16 #[.slice ao gs.length cap, .int .i64 (p : Int)] w fun e w' => ∃ ao' cp, e = .returned (.slice ao' (gs.length - 1) cp) ∧ Own1 w w' 44 1 ao' (gs.length - 1) cp (pvs (rmv gs p 0)) := by
  obtain ⟨ie, hie, hz0, hz1, hz2⟩ := info_parts Yba.info44
  have hcap : 0 < cap := by have := hs.2.1; omega
  obtain ⟨g, off, _, rfl, _⟩ := hs.at_ hcap
  obtain ⟨n, hn1⟩ : ∃ n, gs.length = n + 1 := ⟨gs.length - 1, by omega⟩
  have hcell : ∀ q, q < n + 1 → w.cell? ⟨g, off + q, none⟩ = (gs[q]?).map pv := fun q hq => by
    rw [hs.cell hcap q (by omega)]
    simp [pvs]
  have HC := hide hcell
  have HRL : Hid ((rmv gs p 0).length = n) := by show _ = _; rw [rmv_len]; omega
  have HRG : Hid (∀ q, q < n → (rmv gs p 0)[q]? = if q = p then gs[n]? else gs[q]?) := fun q hq => by
    rw [rmv_get (by omega), hn1]
    rfl
  have HN := hide hn1
  have hmk := mk_room43b n (by omega)
  have hnn : n + 1 ≤ 200000 := by omega
  rw [hn1]
  rw [show n + 1 - 1 = n by omega]
  have hp' : p < n + 1 := by omega
  clear hs hcell h0 hn hp hn1
  generalize rmv gs p 0 = rs at *
  go_enter Yba.func16, Yba.ntmps16
  go_wp2
  go_loopw [6, 7] (fun v iv wr => ∃ (q : Nat) (a2 : Option Addr) (c2 : Nat), q ≤ n ∧ v = .slice a2 q c2 ∧ iv = .int .i64 (q : Int) ∧ Own1 w wr 44 1 a2 q c2 (pvs (rs.take q))) (fun _ iv _ => n - (intOf iv).toNat)
  case atStart => exact ⟨0, _, _, Nat.zero_le _, rfl, rfl, Own1.made w 44 n (by unfold maxLen; omega)⟩
  case round =>
    obtain ⟨q, a2, c2, hq, rfl, rfl, hown⟩ := hrel
    have HO := hide hown
    clear hown
    by_cases hqn : q < n
    · by_cases hqp : q = p
      · subst hqp
        have x0 := HC.out n (by omega)
        obtain ⟨b, hb⟩ : ∃ b, gs[n]? = some b := ⟨_, List.getElem?_eq_getElem (by have := HN.out; omega)⟩
        rw [hb] at x0
        have y0 := HO.out.out.cell x0 (by simp)
        unfold pv at y0
        have HT := hide (take_snoc (x := b) (by rw [HRG.out q hqn, if_pos rfl, hb]))
        have t0 : ((q : Int) == (q : Int)) = true := by simp
        clear x0 hb
        obtain ⟨wo, rfl⟩ : ∃ wo : World, wo = wr := ⟨_, rfl⟩
        have tok : True := trivial
        go_wp2_with (at_builtin; go_must (have _t := tok; refine wpList_append_cut _ rfl (.tmp 21) (.tmp 26) 43 rfl 44 ie (.pointer none) 1 8 Yba.underlying43 hie hz0 hz1 hz2 rfl (by decide) a2 q c2 (pvs (rs.take q)) rfl (slc_alloc HO.out.slc _) ⟨wo.heap.size, 0, none⟩ 1 1 [pv b] rfl rfl (pv_news' b _ 44 rfl) (pvs_one [b]) (by decide) (by unfold maxLen; omega) (by omega) ?_; intro ao' cap' w2 hs2 ho2 how2; have HNX := hide (HO.out.next _ hs2 ho2 how2); clear hs2 ho2 how2 tok _t))
        go_roundw
        case rel =>
          refine ⟨q + 1, ao', cap', by omega, rfl, by go_num, ?_⟩
          rw [HT.out, ← pvs_snoc]
          exact HNX.out
        case measure => simp [intOf]; omega
      · have x0 := HC.out q (by omega)
        obtain ⟨b, hb⟩ : ∃ b, gs[q]? = some b := ⟨_, List.getElem?_eq_getElem (by have := HN.out; omega)⟩
        rw [hb] at x0
        have y0 := HO.out.out.cell x0 (by simp)
        unfold pv at y0
        have HT := hide (take_snoc (x := b) (by rw [HRG.out q hqn, if_neg hqp, hb]))
        have t0 : ((q : Int) == (p : Int)) = false := by rw [beq_eq_false_iff_ne]; omega
        clear x0 hb
        obtain ⟨wo, rfl⟩ : ∃ wo : World, wo = wr := ⟨_, rfl⟩
        have tok : True := trivial
        go_wp2_with (at_builtin; go_must (have _t := tok; refine wpList_append_cut _ rfl (.tmp 28) (.tmp 33) 43 rfl 44 ie (.pointer none) 1 8 Yba.underlying43 hie hz0 hz1 hz2 rfl (by decide) a2 q c2 (pvs (rs.take q)) rfl (slc_alloc HO.out.slc _) ⟨wo.heap.size, 0, none⟩ 1 1 [pv b] rfl rfl (pv_news' b _ 44 rfl) (pvs_one [b]) (by decide) (by unfold maxLen; omega) (by omega) ?_; intro ao' cap' w2 hs2 ho2 how2; have HNX := hide (HO.out.next _ hs2 ho2 how2); clear hs2 ho2 how2 tok _t))
        go_roundw
        case rel =>
          refine ⟨q + 1, ao', cap', by omega, rfl, by go_num, ?_⟩
          rw [HT.out, ← pvs_snoc]
          exact HNX.out
        case measure => simp [intOf]; omega
    · obtain rfl : q = n := by omega
      go_wp2
      go_ret
      refine ⟨a2, c2, rfl, ?_⟩
      have e := HO.out
      rw [List.take_of_length_le (by have := HRL.out; omega)] at e
      exact e

end Go.Proofs.Ybulkdukm
