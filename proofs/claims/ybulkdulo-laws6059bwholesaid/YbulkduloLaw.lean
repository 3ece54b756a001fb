/-
  THE WALK OF THE LAW (3).
-/
import Derived.Test.YbulkduloCopy
namespace Go.Proofs.Ybulkdulo
open Go.RowKit
set_option linter.unusedVariables false

set_option maxRecDepth 100000 in
theorem law_long (p : ByteArray) (a : Option Addr) (len cap : Nat) (w : World) (hl : len ≤ 9223372036854775807) (hp : p.size ≤ 9223372036854775807) (h : 1048576 < len) :
    Calls Yba.prog 3 #[.string p, .slice a len cap] w fun e w' => e = .returned (.bool true) ∧ Below w.heap.size w w' := by
  have hd : decide (1048576 < (len : Int)) = true := decide_eq_true (by omega)
  go_enter Yba.func3, Yba.ntmps3
  go_wp2
  go_ret
  exact ⟨rfl, Below.refl _ _⟩

set_option maxRecDepth 100000 in
theorem law_wide (p : ByteArray) (a : Option Addr) (len cap : Nat) (w : World) (hl : len ≤ 1048576) (hp : p.size ≤ 9223372036854775807) (h : 1048576 < p.size) :
    Calls Yba.prog 3 #[.string p, .slice a len cap] w fun e w' => e = .returned (.bool true) ∧ Below w.heap.size w w' := by
  have hd : decide (1048576 < (len : Int)) = false := decide_eq_false (by omega)
  have hd2 : decide (1048576 < (p.size : Int)) = true := decide_eq_true (by omega)
  go_enter Yba.func3, Yba.ntmps3
  go_wp2
  go_ret
  exact ⟨rfl, Below.refl _ _⟩

theorem cp_cells {w w' : World} {sx : Nat → ByteArray} {n : Nat} (h : Outside [] (w.alloc (.cells (strv sx (List.range n)).toArray 9)) w') : ∀ j, j < n → w'.cell? ⟨w.heap.size, j, none⟩ = some (.string (sx j)) := fun j hj => by
  refine h.cell ?_ (by simp)
  rw [cell_of_row _ _ _ _ 9 (0, 0) (heap_alloc_new w _)]
  simp [strv, hj]
theorem below_of_out {w w' : World} (h : Outside [] w w') : Below w.heap.size w w' := h.below (Below.refl _ w) (Nat.le_refl _) (by simp)
theorem out_alloc {w w' : World} {ob : Obj} (h : Outside [] (w.alloc ob) w') : Outside [] w w' := ((Outside.refl [] w).alloc ob).trans h
theorem strv_snoc (sx : Nat → ByteArray) (is : List Nat) (j : Nat) : strv sx is ++ [.string (sx j)] = strv sx (is ++ [j]) := by simp [strv]

/-- The i-th of what was found, in both slices. -/
theorem both {w0 w0' w : World} {sx : Nat → ByteArray} {is : List Nat} {aoG aoW : Option Addr} {cG cW i : Nat} (hG : Own w0 w 27 3 aoG is.length cG (comps sx is)) (hW : Own w0' w 9 1 aoW is.length cW (strv sx is)) (hi : i < is.length) :
    ∃ s gG oG gW oW, aoG = some ⟨gG, oG, none⟩ ∧ aoW = some ⟨gW, oW, none⟩ ∧ w.cell? ⟨gG, oG + i * 3, none⟩ = some (.string s) ∧ w.cell? ⟨gG, oG + i * 3 + 1, none⟩ = some (.bool true) ∧ w.cell? ⟨gG, oG + i * 3 + 2, none⟩ = some (.bool false) ∧ w.cell? ⟨gW, oW + i, none⟩ = some (.string s) := by
  have h1 := hG.slc.2.1
  have h2 := hW.slc.2.1
  obtain ⟨gG, oG, _, rfl, _⟩ := hG.slc.at_ (by omega)
  obtain ⟨gW, oW, _, rfl, _⟩ := hW.slc.at_ (by omega)
  obtain ⟨c0, c1, c2⟩ := comps_get sx is i hi
  refine ⟨sx is[i], gG, oG, gW, oW, rfl, rfl, ?_, ?_, ?_, ?_⟩
  · rw [hG.slc.cell (by omega) (i * 3) (by omega)]
    exact c0
  · rw [Nat.add_assoc, hG.slc.cell (by omega) (i * 3 + 1) (by omega)]
    exact c1
  · rw [Nat.add_assoc, hG.slc.cell (by omega) (i * 3 + 2) (by omega)]
    exact c2
  · rw [hW.slc.cell (by omega) i (by omega)]
    simp [strv, hi]

theorem eq_nil (w : World) : (binOp .eql 23 (.slice none 0 0) (.slice none 0 0)).run Yba.prog w = .ok (.bool true) w := by
  have h : ∀ d : Nat, (Op.equalIn (d + 1) 23 (.slice none 0 0) (.slice none 0 0)).run Yba.prog w = .ok true w := fun d => by
    simp [Op.equalIn, run_underlying Yba.underlying23]
  simp only [binOp]
  simp [Op.equal, Op.maxDepth, h 9999]

set_option maxRecDepth 100000 in
set_option maxHeartbeats 4000000 in
theorem law_main (p : ByteArray) (a : Option Addr) (len cap : Nat) (sx : Nat → ByteArray) (w : World) (hl : len ≤ 1048576) (hp : p.size ≤ 1048576) (hsrc : Src w a len sx) :
    Calls Yba.prog 3 #[.string p, .slice a len cap] w fun e w' => e = .returned (.bool true) ∧ Below w.heap.size w w' := by
  obtain ⟨i9, hi9, hz0, hz1, hz2⟩ := info_parts Yba.info9
  have hd : decide (1048576 < (len : Int)) = false := decide_eq_false (by omega)
  have hd2 : decide (1048576 < (p.size : Int)) = false := decide_eq_false (by omega)
  have hpm : p.size ≤ maxLen := by unfold maxLen; omega
  have HPM := hide hpm
  have HSRC := hide hsrc
  have HWD := hide (words_any p a len cap sx (w.alloc (.cells (strv sx (List.range len)).toArray 9)) hpm hl (hsrc.outside ((Outside.refl [] w).alloc _)))
  clear hsrc hpm
  go_enter Yba.func3, Yba.ntmps3
  go_wp2
  clear hd hd2
  go_loopw [5, 6] (fun t iv wr => ∃ (i : Nat) (x : Int), i ≤ len ∧ t = .int .i64 x ∧ iv = .int .i64 (i : Int) ∧ wr = w) (fun _ iv _ => len - (intOf iv).toNat)
  case atStart => exact ⟨0, _, Nat.zero_le _, rfl, rfl, rfl⟩
  case round =>
    obtain ⟨i, x, hi, rfl, rfl, rfl⟩ := hrel
    by_cases hil : i < len
    · obtain ⟨b, off, rfl, hb, hcs⟩ := HSRC.out (by omega)
      obtain ⟨hsz, x0⟩ := hcs i hil
      clear hcs
      unfold maxLen at hsz
      go_wp2
      · go_ret
        exact ⟨rfl, Below.refl _ _⟩
      · refine ⟨⟨i + 1, _, by omega, rfl, by go_num, by trivial⟩, by simp [intOf]; omega⟩
    · obtain rfl : i = len := by omega
      have hmk := mk_full i hl
      obtain ⟨wo, rfl⟩ : ∃ wo : World, wo = wr := ⟨_, rfl⟩
      go_wp2_with (first
        | ((with_reducible apply wcopy); (case ho => rfl); go_must ((case hg => rfl); (case hsrc => exact HSRC.out); (case hb => rfl); (case hd => rfl); (case hs => rfl)))
        | (go_at_call 4; go_must (refine (unhide HWD).mono ?_; rintro e w4 ⟨aoG, cG, rfl, hown⟩; have HG := hide hown; clear hown)))
      have hNl := hits_len p sx i
      clear hmk HWD
      go_loopw [9] (fun iv wx => ∃ m : Nat, m ≤ i ∧ iv = .int .i64 (m : Int) ∧ Outside [] w4 wx) (fun iv _ => i - (intOf iv).toNat)
      case atStart => exact ⟨0, Nat.zero_le _, rfl, Outside.refl _ _⟩
      case round =>
        obtain ⟨m, hm, rfl, ho⟩ := hrel
        have HO := hide ho
        have HO2 := hide (out_alloc (HG.out.out.trans ho))
        by_cases hmi : m < i
        · have y0 := cp_cells (HG.out.out.trans ho) m hmi
          obtain ⟨b, off, rfl, hb, hcs⟩ := HSRC.out (by omega)
          obtain ⟨hsz, x0⟩ := hcs m hmi
          have x1 := HO2.out.cell x0 (by simp)
          clear hcs x0 ho hsz
          generalize sx m = s0 at *
          obtain ⟨wo2, rfl⟩ : ∃ wo : World, wo = wr := ⟨_, rfl⟩
          go_wp2_with fail
          go_quiet (fail)
          go_wp2
          go_roundw
          case rel => exact ⟨m + 1, by omega, by go_num, HO.out.drewN nq⟩
          case measure => simp [intOf]; omega
        · obtain rfl : m = i := by omega
          have HG2 := hide (HG.out.outside ho)
          clear ho HG HO
          obtain ⟨w5, rfl⟩ : ∃ wo : World, wo = wr := ⟨_, rfl⟩
          go_wp2
          go_loopw [10, 11] (fun v iv wx => ∃ (q : Nat) (ao : Option Addr) (cp : Nat), q ≤ m ∧ v = .slice ao (hits p sx q).length cp ∧ iv = .int .i64 (q : Int) ∧ Own w5 wx 9 1 ao (hits p sx q).length cp (strv sx (hits p sx q))) (fun _ iv _ => m - (intOf iv).toNat)
          case atStart => exact ⟨0, none, 0, Nat.zero_le _, rfl, rfl, Own.start w5 w5 9 1 (Outside.refl _ _)⟩
          case round =>
            obtain ⟨q, ao, cp, hq, rfl, rfl, hown⟩ := hrel
            have HW := hide hown
            have hlen := hits_len p sx q
            have HS := hide (hits_succ p sx q)
            clear hown
            by_cases hqm : q < m
            · have y0 := cp_cells (HG2.out.out.trans HW.out.out) q hqm
              obtain ⟨b, off, rfl, hb, hcs⟩ := HSRC.out (by omega)
              have hsz := (hcs q hqm).1
              have HH := hide (zz5 (sx q) p wr hsz HPM.out)
              clear hcs hsz
              obtain ⟨gs, hgs⟩ : ∃ gs, hits p sx q = gs := ⟨_, rfl⟩
              rw [hgs] at HW hlen HS
              rw [hgs]
              have hlw : wo.heap.size < wr.heap.size := World.block_lt_of_cell? _ _ y0
              clear hgs
              obtain ⟨wo2, rfl⟩ : ∃ wo : World, wo = wr := ⟨_, rfl⟩
              cases hh : has (sx q) p with
              | true =>
                rw [hh] at HH HS
                have HS' : Hid (hits p sx (q + 1) = gs ++ [q]) := by show _ = _; rw [HS.out]; simp
                clear HS hh
                have tok : True := trivial
                go_wp2_with (first
                  | (go_at_call 5; go_must (refine (unhide HH).mono ?_; rintro e w6 ⟨rfl, ho6⟩; have HW6 := hide (HW.out.outside ho6); have y6 := ho6.cell y0 (by simp); clear ho6))
                  | (at_builtin; go_must (have _t := tok; refine wpList_append_cut _ rfl (.tmp 79) (.tmp 84) 22 rfl 9 i9 (.string ByteArray.empty) 1 16 Yba.underlying22 hi9 hz0 hz1 hz2 rfl (by decide) ao gs.length cp (strv sx gs) rfl (slc_alloc HW6.out.slc _) ⟨_, 0, none⟩ 1 1 [.string (sx q)] rfl rfl (news_cells [.string (sx q)] 9 _ rfl) (strv_one sx [q]) (by decide) (by unfold maxLen; omega) (by omega) ?_; intro ao' cap' w2 hs2 ho2 how2; have HN := hide (HW6.out.next _ (by decide) hs2 ho2 how2); clear hs2 ho2 how2 tok _t)))
                go_roundw
                case rel =>
                  refine ⟨q + 1, ao', cap', by omega, ?_, by go_num, ?_⟩
                  · rw [HS'.out]; simp
                  · have e := HN.out
                    rw [strv_snoc] at e
                    rw [HS'.out]
                    simpa using e
                case measure => simp [intOf]; omega
              | false =>
                rw [hh] at HH HS
                have HS' : Hid (hits p sx (q + 1) = gs) := by show _ = _; rw [HS.out]; simp
                clear HS hh
                go_wp2_with (go_at_call 5; go_must (refine (unhide HH).mono ?_; rintro e w6 ⟨rfl, ho6⟩; have HW6 := hide (HW.out.outside ho6); clear ho6))
                go_roundw
                case rel =>
                  refine ⟨q + 1, ao, cp, by omega, ?_, by go_num, ?_⟩
                  · rw [HS'.out]
                  · rw [HS'.out]; exact HW6.out
                case measure => simp [intOf]; omega
            · obtain rfl : q = m := by omega
              have HG3 := hide (HG2.out.outside HW.out.out)
              have HBL := hide (below_of_out (HO2.out.trans HW.out.out))
              have HBS := hide (HO2.out.trans HW.out.out).size
              clear HS HG2 hlen HSRC HPM HO2
              generalize hits p sx q = gs at *
              by_cases h0 : gs.length = 0
              · obtain ⟨rfl, rfl⟩ := HG3.out.nil h0
                obtain ⟨rfl, rfl⟩ := HW.out.nil h0
                obtain rfl : gs = [] := List.length_eq_zero_iff.1 h0
                rw [List.length_nil]
                clear h0 HW HG3 hNl
                have hen := eq_nil
                go_wp2
                go_ret
                exact ⟨rfl, HBL.out⟩
              · go_wp2
                go_loopw [12] (fun iv wx => ∃ r : Nat, r ≤ gs.length ∧ iv = .int .i64 (r : Int) ∧ Outside [] wr wx) (fun iv _ => gs.length - (intOf iv).toNat)
                case atStart => exact ⟨0, Nat.zero_le _, rfl, Outside.refl _ _⟩
                case round =>
                  obtain ⟨r, hr, rfl, ho⟩ := hrel
                  have HO := hide ho
                  by_cases hrg : r < gs.length
                  · obtain ⟨s0, gG, oG, gW, oW, rfl, rfl, k0, k1, k2, k3⟩ := both (HG3.out.outside ho) (HW.out.outside ho) hrg
                    clear ho
                    go_wp2_with fail
                    go_quiet (fail)
                    go_wp2
                    go_roundw
                    case rel => exact ⟨r + 1, by omega, by go_num, HO.out.drewN nq⟩
                    case measure => simp [intOf]; omega
                  · obtain rfl : r = gs.length := by omega
                    have HB2 := hide (ho.below HBL.out HBS.out (by simp))
                    clear ho
                    go_wp2
                    go_ret
                    exact ⟨rfl, HB2.out⟩

end Go.Proofs.Ybulkdulo
