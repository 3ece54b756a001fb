/-
  'zzs6059adec' (7): THE DECIMAL NUMERAL.
-/
import Derived.Test.YbulkduloDoorItoa
import Derived.Lib.ItoaNum
import Derived.Laws.IdiomStrings
import Derived.WalkLawsBesides
import Derived.WalkSpells
import Derived.Outline
import Derived.Deep.RegionWith
namespace Go.Proofs.YbulkduloDoor
open Go.RowKit
set_option linter.unusedVariables false

/-- The buffer when D is written at its end. -/
def bufc (D : List UInt8) : List Value := List.replicate (24 - D.length) (.int .u8 0) ++ D.map fun b => .int .u8 (b.toNat : Int)
theorem bufc_len {D : List UInt8} (h : D.length ≤ 24) : (bufc D).length = 24 := by simp [bufc]; omega
theorem bufc_set {D : List UInt8} (d : UInt8) (h : D.length < 24) : (bufc D).set (24 - D.length - 1) (.int .u8 (d.toNat : Int)) = bufc (d :: D) := by
  unfold bufc
  have e : 24 - D.length = (24 - D.length - 1) + 1 := by omega
  rw [List.set_append_left _ _ (by simp; omega)]
  generalize 24 - D.length - 1 = m at *
  rw [e, List.replicate_succ', List.set_append_right _ _ (by simp)]
  simp
theorem bufc_get {D : List UInt8} {j : Nat} (h : D.length ≤ 24) (hj : j < D.length) : (bufc D)[24 - D.length + j]? = some (.int .u8 (D[j].toNat : Int)) := by
  unfold bufc
  rw [List.getElem?_append_right (by simp)]
  simp [hj]

/-- What the loop knows: U is being written, u is left. -/
def Left10 (U u : Nat) (D : List UInt8) : Prop := (0 < u → Lib.decDigits U = Lib.decDigits u ++ D) ∧ (u = 0 → Lib.decDigits U = D) ∧ (0 < u → u * 10 ^ D.length ≤ U) ∧ D.length ≤ 20

theorem Left10.next {U u : Nat} {D : List UInt8} (h : Left10 U u D) (hu : 0 < u) (hU : U < 2 ^ 64) : D.length ≤ 19 ∧ Left10 U (u / 10) (UInt8.ofNat (48 + u % 10) :: D) := by
  obtain ⟨h1, _, h3, h4⟩ := h
  have e1 := h1 hu
  have e3 := h3 hu
  have hl : D.length ≤ 19 := by
    have hp : 10 ^ D.length ≤ U := Nat.le_trans (Nat.le_mul_of_pos_left _ hu) e3
    by_cases hc : D.length ≤ 19
    · exact hc
    · have : 10 ^ 20 ≤ 10 ^ D.length := Nat.pow_le_pow_right (by omega) (by omega)
      have : (10 : Nat) ^ 20 = 100000000000000000000 := by decide
      have : (2 : Nat) ^ 64 = 18446744073709551616 := by decide
      omega
  refine ⟨hl, fun hq => ?_, fun hq => ?_, fun hq => ?_, by simp; omega⟩
  · rw [e1, Lib.decDigits, dif_neg (by omega)]
    simp
  · rw [e1, Lib.decDigits, dif_pos (by omega), show u % 10 = u by omega]
    rfl
  · rw [List.length_cons, Nat.pow_succ]
    have a : u / 10 * 10 ≤ u := Nat.div_mul_le_self u 10
    have b : u / 10 * (10 ^ D.length * 10) = (u / 10 * 10) * 10 ^ D.length := by
      rw [Nat.mul_comm (10 ^ D.length) 10, Nat.mul_assoc]
    rw [b]
    exact Nat.le_trans (Nat.mul_le_mul_right _ a) e3

theorem run_cut31 (b i : Nat) (hi : i < 24) (W : World) : (Instr.sliceAt 31 (.pointer (some ⟨b, 0, none⟩)) (some (.int .i64 (i : Int))) none none).run Ybad.prog W = .ok (.slice (some ⟨b, i, none⟩) (24 - i) (24 - i)) W := by
  have ea : (⟨b, 0, none⟩ : Addr).add i = ⟨b, i, none⟩ := by unfold Addr.add; split <;> simp_all
  have hi' : i ≤ 24 := by omega
  have hne : ¬ 24 = i := by omega
  simp [Instr.sliceAt, run_underlying Ybad.underlying31, Instr.sureAddr, Instr.sliceBounds, Instr.sliceBound, asIntOf, ea, hi', Ybad.sizeOf5]
  omega

set_option maxRecDepth 100000 in
set_option maxHeartbeats 1000000 in
theorem dec_pos (U : Nat) (w : World) (h0 : 0 < U) (h1 : U ≤ 9223372036854775807) :
    Calls Ybad.prog 7 #[.int .i64 (U : Int)] w fun e w' => e = .returned (.string ⟨(Lib.decDigits U).toArray⟩) ∧ Outside [] w w' := by
  have hd : decide ((U : Int) < 0) = false := decide_eq_false (by omega)
  go_enter Ybad.func7, Ybad.ntmps7
  go_wp2
  go_loopw [4, 6] (fun v iv wx => ∃ (u i : Nat) (D : List UInt8), Left10 U u D ∧ u ≤ U ∧ i + D.length = 24 ∧ v = .int .u64 (u : Int) ∧ iv = .int .i64 (i : Int) ∧ wx.heap[w.heap.size]? = some (.cells (bufc D).toArray 31 (0, 0)) ∧ Outside [] w wx) (fun v _ _ => (intOf v).toNat)
  case atStart => exact ⟨U, 24, [], ⟨fun _ => by simp, fun h => by omega, fun _ => by simp, by simp⟩, Nat.le_refl _, rfl, rfl, rfl, heap_alloc_new w _, (Outside.refl [] w).alloc _⟩
  case round =>
    obtain ⟨u, i, D, hL, huU, hiD, rfl, rfl, hbuf, ho⟩ := hrel
    have HL := hide hL
    have HBF := hide hbuf
    have HO := hide ho
    have hlt := lt_of_block hbuf
    clear hL hbuf ho
    by_cases hu : 0 < u
    · obtain ⟨hD, hN⟩ := HL.out.next hu (by omega)
      have HN := hide hN
      have hm : Int.tmod (u : Int) 10 = ((u % 10 : Nat) : Int) := (Int.ofNat_tmod u 10).symm
      have hq : Int.tdiv (u : Int) 10 = ((u / 10 : Nat) : Int) := (Int.ofNat_tdiv u 10).symm
      obtain ⟨i', rfl⟩ : ∃ i', i = i' + 1 := ⟨i - 1, by omega⟩
      have c0 : ∃ v, wr.cell? ⟨w.heap.size, i', none⟩ = some (.int .u8 v) := by
        rw [cell_of_row wr _ _ _ 31 (0, 0) HBF.out, List.getElem?_toArray]
        refine ⟨0, ?_⟩
        unfold bufc
        rw [List.getElem?_append_left (by rw [List.length_replicate]; omega), List.getElem?_replicate, if_pos (by omega)]
      obtain ⟨v0, c0⟩ := c0
      have f0 : wr.frozen? ⟨w.heap.size, i', none⟩ = false := frozen_of_row wr _ _ _ 31 HBF.out
      have hi' : i' < 24 := by omega
      have hr10 : u % 10 < 10 := Nat.mod_lt _ (by omega)
      have HSET := hide (bufc_set (D := D) (UInt8.ofNat (48 + u % 10)) (by omega))
      have HDV := hide (Nat.div_lt_self hu (show 1 < 10 by omega))
      have HU8 : Hid ((UInt8.ofNat (48 + u % 10)).toNat = 48 + u % 10) := by show _ = _; simp; omega
      clear hN
      generalize hrr : u % 10 = r at *
      generalize hqq : u / 10 = q at *
      have hwq : IntKind.u64.wrap (q : Int) = (q : Int) := by have := HDV.out; rw [IntKind.wrap_u64]; omega
      clear hrr hqq
      obtain ⟨wo, rfl⟩ : ∃ wo : World, wo = wr := ⟨_, rfl⟩
      go_wp2
      go_roundw
      case rel =>
        refine ⟨q, i', _ , HN.out, by have := HDV.out; omega, by simp; omega, rfl, by go_num, ?_, HO.out.setCell _ _ (.inr (Nat.le_refl _)) _⟩
        rw [heap_setCell_same wo w.heap.size i' _ 31 _ HBF.out, ← HSET.out, HU8.out, show 24 - D.length - 1 = i' by omega]
        simp
      case measure => have := HDV.out; simp [intOf]; omega
    · obtain rfl : u = 0 := by omega
      have hdd := HL.out.2.1 rfl
      have HDD := hide hdd
      have hD20 := HL.out.2.2.2
      have hD1 : 0 < D.length := by
        rw [← hdd]
        unfold Lib.decDigits
        split <;> simp
      have hi24 : i < 24 := by omega
      have hsl := run_cut31 w.heap.size i (by omega)
      have hcv : ∀ cap, (convert 32 9 (.slice (some ⟨w.heap.size, i, none⟩) (24 - i) cap)).run Ybad.prog wr = .ok (.string ⟨D.toArray⟩) wr := fun cap => by
        have e := run_convert_bytes_back (P := Ybad.prog) wr 32 9 5 ⟨w.heap.size, i, none⟩ cap D Ybad.underlying32 Ybad.underlying5 Ybad.underlying9 (fun j hj => by
          have ea : (⟨w.heap.size, i, none⟩ : Addr).add j = ⟨w.heap.size, i + j, none⟩ := by unfold Addr.add; split <;> simp_all
          rw [ea, cell_of_row wr _ _ _ 31 (0, 0) HBF.out, List.getElem?_toArray, show i + j = 24 - D.length + j by omega, bufc_get (by omega) hj])
        rw [show 24 - i = D.length by omega]
        exact e
      clear hdd HL HBF
      obtain ⟨wo, rfl⟩ : ∃ wo : World, wo = wr := ⟨_, rfl⟩
      go_wp2
      go_ret
      exact ⟨by rw [HDD.out]; rfl, HO.out⟩

set_option maxRecDepth 100000 in
set_option maxHeartbeats 1000000 in
theorem dec_neg (U : Nat) (n : Int) (w : World) (h0 : 0 < U) (h1 : U ≤ 9223372036854775808) (hn : n = -(U : Int)) :
    Calls Ybad.prog 7 #[.int .i64 n] w fun e w' => e = .returned (.string ⟨((45 : UInt8) :: Lib.decDigits U).toArray⟩) ∧ Outside [] w w' := by
  have hd : decide (n < 0) = true := decide_eq_true (by omega)
  have hww : IntKind.u64.wrap (-(IntKind.u64.wrap n)) = (U : Int) := by rw [IntKind.wrap_u64, IntKind.wrap_u64]; omega
  have hn0 : ¬ n = 0 := by omega
  have hU0 : ((U : Int) == 0) = false := by rw [beq_eq_false_iff_ne]; omega
  clear hn
  go_enter Ybad.func7, Ybad.ntmps7
  go_wp2
  go_loopw [4, 6] (fun v iv wx => ∃ (u i : Nat) (D : List UInt8), Left10 U u D ∧ u ≤ U ∧ i + D.length = 24 ∧ v = .int .u64 (u : Int) ∧ iv = .int .i64 (i : Int) ∧ wx.heap[w.heap.size]? = some (.cells (bufc D).toArray 31 (0, 0)) ∧ Outside [] w wx) (fun v _ _ => (intOf v).toNat)
  case atStart => exact ⟨U, 24, [], ⟨fun _ => by simp, fun h => by omega, fun _ => by simp, by simp⟩, Nat.le_refl _, rfl, rfl, rfl, heap_alloc_new w _, (Outside.refl [] w).alloc _⟩
  case round =>
    obtain ⟨u, i, D, hL, huU, hiD, rfl, rfl, hbuf, ho⟩ := hrel
    have HL := hide hL
    have HBF := hide hbuf
    have HO := hide ho
    have hlt := lt_of_block hbuf
    clear hL hbuf ho
    by_cases hu : 0 < u
    · obtain ⟨hD, hN⟩ := HL.out.next hu (by omega)
      have HN := hide hN
      have hm : Int.tmod (u : Int) 10 = ((u % 10 : Nat) : Int) := (Int.ofNat_tmod u 10).symm
      have hq : Int.tdiv (u : Int) 10 = ((u / 10 : Nat) : Int) := (Int.ofNat_tdiv u 10).symm
      obtain ⟨i', rfl⟩ : ∃ i', i = i' + 1 := ⟨i - 1, by omega⟩
      have c0 : ∃ v, wr.cell? ⟨w.heap.size, i', none⟩ = some (.int .u8 v) := by
        rw [cell_of_row wr _ _ _ 31 (0, 0) HBF.out, List.getElem?_toArray]
        refine ⟨0, ?_⟩
        unfold bufc
        rw [List.getElem?_append_left (by rw [List.length_replicate]; omega), List.getElem?_replicate, if_pos (by omega)]
      obtain ⟨v0, c0⟩ := c0
      have f0 : wr.frozen? ⟨w.heap.size, i', none⟩ = false := frozen_of_row wr _ _ _ 31 HBF.out
      have hi' : i' < 24 := by omega
      have hr10 : u % 10 < 10 := Nat.mod_lt _ (by omega)
      have HSET := hide (bufc_set (D := D) (UInt8.ofNat (48 + u % 10)) (by omega))
      have HDV := hide (Nat.div_lt_self hu (show 1 < 10 by omega))
      have HU8 : Hid ((UInt8.ofNat (48 + u % 10)).toNat = 48 + u % 10) := by show _ = _; simp; omega
      clear hN
      generalize hrr : u % 10 = r at *
      generalize hqq : u / 10 = q at *
      have hwq : IntKind.u64.wrap (q : Int) = (q : Int) := by have := HDV.out; rw [IntKind.wrap_u64]; omega
      clear hrr hqq
      obtain ⟨wo, rfl⟩ : ∃ wo : World, wo = wr := ⟨_, rfl⟩
      go_wp2
      go_roundw
      case rel =>
        refine ⟨q, i', _ , HN.out, by have := HDV.out; omega, by simp; omega, rfl, by go_num, ?_, HO.out.setCell _ _ (.inr (Nat.le_refl _)) _⟩
        rw [heap_setCell_same wo w.heap.size i' _ 31 _ HBF.out, ← HSET.out, HU8.out, show 24 - D.length - 1 = i' by omega]
        simp
      case measure => have := HDV.out; simp [intOf]; omega
    · obtain rfl : u = 0 := by omega
      have hdd := HL.out.2.1 rfl
      have HDD := hide hdd
      have hD20 := HL.out.2.2.2
      obtain ⟨i', rfl⟩ : ∃ i', i = i' + 1 := ⟨i - 1, by omega⟩
      have hi24 : i' < 24 := by omega
      have c0 : ∃ v, wr.cell? ⟨w.heap.size, i', none⟩ = some (.int .u8 v) := by
        rw [cell_of_row wr _ _ _ 31 (0, 0) HBF.out, List.getElem?_toArray]
        refine ⟨0, ?_⟩
        unfold bufc
        rw [List.getElem?_append_left (by rw [List.length_replicate]; omega), List.getElem?_replicate, if_pos (by omega)]
      obtain ⟨v0, c0⟩ := c0
      have f0 : wr.frozen? ⟨w.heap.size, i', none⟩ = false := frozen_of_row wr _ _ _ 31 HBF.out
      have hsl := run_cut31 w.heap.size i' (by omega)
      have hb2 : (wr.setCell ⟨w.heap.size, i', none⟩ (.int .u8 45)).heap[w.heap.size]? = some (.cells (bufc (45 :: D)).toArray 31 (0, 0)) := by
        have e := bufc_set (D := D) (45 : UInt8) (by omega)
        rw [heap_setCell_same wr w.heap.size i' _ 31 _ HBF.out, ← e, show 24 - D.length - 1 = i' by omega]
        simp
      have hcv : ∀ cap, (convert 32 9 (.slice (some ⟨w.heap.size, i', none⟩) (24 - i') cap)).run Ybad.prog (wr.setCell ⟨w.heap.size, i', none⟩ (.int .u8 45)) = .ok (.string ⟨((45 : UInt8) :: D).toArray⟩) (wr.setCell ⟨w.heap.size, i', none⟩ (.int .u8 45)) := fun cap => by
        have e := run_convert_bytes_back (P := Ybad.prog) (wr.setCell ⟨w.heap.size, i', none⟩ (.int .u8 45)) 32 9 5 ⟨w.heap.size, i', none⟩ cap (45 :: D) Ybad.underlying32 Ybad.underlying5 Ybad.underlying9 (fun j hj => by
          have ea : (⟨w.heap.size, i', none⟩ : Addr).add j = ⟨w.heap.size, i' + j, none⟩ := by unfold Addr.add; split <;> simp_all
          rw [ea, cell_of_row _ _ _ _ 31 (0, 0) hb2, List.getElem?_toArray, show i' + j = 24 - ((45 : UInt8) :: D).length + j by simp; omega, bufc_get (by simp; omega) hj])
        rw [show 24 - i' = ((45 : UInt8) :: D).length by simp; omega]
        exact e
      clear hdd HL HBF hb2
      obtain ⟨wo, rfl⟩ : ∃ wo : World, wo = wr := ⟨_, rfl⟩
      go_wp2
      go_ret
      exact ⟨by rw [HDD.out]; rfl, HO.out.setCell _ _ (.inr (Nat.le_refl _)) _⟩

theorem dec_zero (w : World) : Calls Ybad.prog 7 #[.int .i64 0] w fun e w' => e = .returned (.string ⟨(Lib.decDigits 0).toArray⟩) ∧ Outside [] w w' := by
  have hdd : Hid (Lib.decDigits 0 = [48]) := by show _ = _; unfold Lib.decDigits; rfl
  go_enter Ybad.func7, Ybad.ntmps7
  go_wp2
  go_ret
  exact ⟨by rw [hdd.out]; rfl, Outside.refl _ _⟩

/-- The decimal numeral, at every int. -/
theorem dec_any (n : Int) (w : World) (h0 : -9223372036854775808 ≤ n) (h1 : n ≤ 9223372036854775807) :
    Calls Ybad.prog 7 #[.int .i64 n] w fun e w' => e = .returned (.string ⟨(Lib.itoa n).toArray⟩) ∧ Outside [] w w' := by
  unfold Lib.itoa
  by_cases hn : n < 0
  · rw [if_pos hn]
    exact dec_neg n.natAbs n w (by omega) (by omega) (by omega)
  · rw [if_neg hn]
    obtain ⟨U, rfl⟩ : ∃ U : Nat, n = (U : Int) := ⟨n.toNat, by omega⟩
    rw [Int.toNat_natCast]
    by_cases hU : U = 0
    · subst hU
      exact dec_zero w
    · exact dec_pos U w (by omega) (by omega)

end Go.Proofs.YbulkduloDoor
