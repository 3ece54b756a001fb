/-
  THE WALK OF THE LAW (3).
-/
import Derived.Test.YbulkduloDoorArgs
import Derived.Deep.DeepCutAuto
import Derived.Deep.CutBlock
namespace Go.Proofs.YbulkduloDoor
open Go.RowKit
set_option linter.unusedVariables false

set_option maxRecDepth 100000 in
theorem law_long (n : Int) (a : Option Addr) (len cap : Nat) (w : World) (hl : len ≤ 9223372036854775807) (h : 1048576 < len) :
    Calls Ybad.prog 3 #[.int .i64 n, .slice a len cap] w fun e w' => e = .returned (.bool true) ∧ Below w.heap.size w w' := by
  go_enter Ybad.func3, Ybad.ntmps3
  go_wp2
  go_ret
  exact ⟨rfl, Below.refl _ _⟩

theorem below_of_out {w w' : World} (h : Outside [] w w') : Below w.heap.size w w' := h.below (Below.refl _ w) (Nat.le_refl _) (by simp)
theorem cloneA_iff (w : World) (a : Option Addr) : a = none ↔ cloneA w a = none := by
  unfold cloneA
  cases a <;> simp

/-- What Args left, and where it reads. -/
theorem Own.read {w0 w : World} {ao : Option Addr} {n cap j : Nat} {xs : List Value} {v : Value} (h : Own w0 w 9 1 ao n cap xs) (hj : j < n) (hv : xs[j]? = some v) : ∃ g off, ao = some ⟨g, off, none⟩ ∧ w.cell? ⟨g, off + j, none⟩ = some v := by
  have h2 := h.slc.2.1
  obtain ⟨g, off, cur, rfl, _⟩ := h.slc.at_ (by omega)
  refine ⟨g, off, rfl, ?_⟩
  have e := h.slc.cell (by omega) j (by omega)
  rw [e, hv]

set_option maxRecDepth 100000 in
set_option maxHeartbeats 4000000 in
theorem law_main (n : Int) (a : Option Addr) (len cap : Nat) (sx : Nat → ByteArray) (w : World) (h0 : -9223372036854775808 ≤ n) (h1 : n ≤ 9223372036854775807) (hl : len ≤ 1048576) (hs : Src w a len cap sx) (htab : Lib.TabIs Ybad.prog w "internal/strconv.uint64pow10" .u64 Lib.pow10Tab) :
    Calls Ybad.prog 3 #[.int .i64 n, .slice a len cap] w fun e w' => e = .returned (.bool true) ∧ Below w.heap.size w w' := by
  have hw1 := cloneW_out w a len sx
  have HCL := hide (clone_any a len cap sx w hl hs)
  have HS := hide hs
  have HSB := hide (clone_src hs)
  have HAB := hide (cloneA_iff w a)
  have HW1 := hide hw1
  have HAR := hide (args_any n a len cap sx ((cloneW w a len sx).alloc (.cells #[.int .i64 n, .slice a len cap] 25)) h0 h1 hl (hs.outside (hw1.alloc _)) (tab_out htab (hw1.alloc _)))
  have HDE : Hid (∀ W, Calls Ybad.prog 7 #[.int .i64 n] W fun e w' => e = .returned (.string ⟨(Lib.itoa n).toArray⟩) ∧ Outside [] W w') := fun W => dec_any n W h0 h1
  have hn1 : ¬ (1048576 : Int) < (len : Int) := by omega
  generalize hit : (⟨(Lib.itoa n).toArray⟩ : ByteArray) = it at *
  clear hs htab hit hw1
  generalize cloneW w a len sx = w1 at *
  generalize cloneA w a = ab at *
  go_enter Ybad.func3, Ybad.ntmps3
  have tok : True := trivial
  go_upto_region 10 with (first
    | (go_at_call 4; go_must (refine (unhide HCL).mono ?_; rintro e w1 ⟨rfl, rfl⟩))
    | (go_at_call 5; go_must (refine (unhide HAR).mono ?_; rintro e w2 ⟨ao, cp, rfl, hown⟩; have HO := hide hown; have HS2 := hide ((HS.out.outside HW1.out).outside (((Outside.refl [] w1).alloc _).trans hown.out)); have HSB2 := hide (HSB.out.outside (((Outside.refl [] w1).alloc _).trans hown.out)); obtain ⟨g, off, hao, _⟩ := hown.read (j := 0) (v := .string idxS) (by omega) rfl; subst hao; have hnn := ne_nil ⟨g, off, none⟩ (2 + 2 * len) cp; have HSM := hide (same_any a ab len cap len sx w2 hl HS2.out HSB2.out HAB.out); clear hown))
    | (go_at_call 6; go_must (refine (unhide HSM).mono ?_; rintro e w3 ⟨rfl, ho3⟩; have HO3 := hide ho3; clear ho3)))
  have c0 : w3.cell? ⟨g, off, none⟩ = some (.string idxS) := by
    obtain ⟨g', off', e1, e2⟩ := (HO.out.outside HO3.out).read (j := 0) (v := .string idxS) (by omega) rfl
    cases e1
    exact e2
  have c1 : w3.cell? ⟨g, off + 1, none⟩ = some (.string it) := by
    obtain ⟨g', off', e1, e2⟩ := (HO.out.outside HO3.out).read (j := 1) (v := .string it) (by omega) rfl
    cases e1
    exact e2
  clear HSM HAR HCL tok hnn
  go_cut [46] (fun v wc => v = .bool false ∧ Outside [] w3 wc)
  case first =>
    go_region_with (go_at_call 7; go_must (refine (HDE.out _).mono ?_; rintro e w4 ⟨rfl, ho4⟩; have HO4 := hide ho4; have c14 := ho4.cell c1 (by simp); clear ho4))
    all_goals go_wp2
    all_goals go_meet
    all_goals exact ⟨rfl, (Outside.refl [] w3).drew.trans HO4.out⟩
  case rest =>
    obtain ⟨rfl, hoc⟩ := hcut
    have HOW := hide (HO.out.outside (HO3.out.trans hoc))
    have HSA := hide (HS2.out.outside (HO3.out.trans hoc))
    have HSC := hide (HSB2.out.outside (HO3.out.trans hoc))
    have HOUT1 := hide (((Outside.refl [] w1).alloc _).trans (HO.out.out.trans (HO3.out.trans hoc)))
    clear hoc c0 c1 HDE HO3 HO HS2 HSB2
    obtain ⟨w5, rfl⟩ : ∃ wo : World, wo = wc := ⟨_, rfl⟩
    go_wp2
    go_loopw [8] (fun iv wx => ∃ m : Nat, m ≤ len ∧ iv = .int .i64 (m : Int) ∧ Outside [] w5 wx) (fun iv _ => len - (intOf iv).toNat)
    case atStart => exact ⟨0, Nat.zero_le _, rfl, Outside.refl _ _⟩
    case round =>
      obtain ⟨m, hm, rfl, ho⟩ := hrel
      have HX := hide ho
      by_cases hml : m < len
      · obtain ⟨v1, v2⟩ := argv_get it sx len m hml
        obtain ⟨g', off', e1, k1⟩ := (HOW.out.outside ho).read (j := 2 + 2 * m) (by omega) v1
        cases e1
        obtain ⟨g', off', e1, k2⟩ := (HOW.out.outside ho).read (j := 3 + 2 * m) (by omega) v2
        cases e1
        obtain ⟨b, ob, rfl, _, hcs⟩ := HSC.out.at_ (by omega)
        have k3 := ho.cell (hcs m hml) (by simp)
        have i1 : 2 + 2 * m < 2 + 2 * len := by omega
        have i2 : 3 + 2 * m < 2 + 2 * len := by omega
        clear v1 v2 hcs ho
        generalize sx m = s0 at *
        obtain ⟨wo, rfl⟩ : ∃ wo : World, wo = wr := ⟨_, rfl⟩
        go_wp2_with fail
        go_quiet (fail)
        go_wp2
        go_roundw
        case rel => exact ⟨m + 1, by omega, by go_num, HX.out.drewN nq⟩
        case measure => simp [intOf]; omega
      · obtain rfl : m = len := by omega
        have hcp : 0 < cp := by have := HOW.out.slc.2.1; omega
        have HG := hide (HOW.out.own g (by rw [ownB_some hcp]; simp))
        have HSL := hide (HOW.out.slc.outside ho (by simp))
        have HOUT2 := hide (HOUT1.out.trans ho)
        clear ho HX HOW HSA HSC HOUT1
        obtain ⟨w6, rfl⟩ : ∃ wo : World, wo = wr := ⟨_, rfl⟩
        go_wp2
        go_loopw [9] (fun iv wx => ∃ (q : Nat) (xs : List Value), q ≤ 2 + 2 * m ∧ iv = .int .i64 (q : Int) ∧ Slc wx 9 1 (some ⟨g, off, none⟩) (2 + 2 * m) cp xs ∧ Outside [g] w6 wx) (fun iv _ => 2 + 2 * m - (intOf iv).toNat)
        case atStart => exact ⟨0, _, Nat.zero_le _, rfl, HSL.out, Outside.refl _ _⟩
        case round =>
          obtain ⟨q, xs, hq, rfl, hsl, ho⟩ := hrel
          have HX := hide ho
          have HXS := hide hsl
          by_cases hqm : q < 2 + 2 * m
          · have e1 := hsl.cell hcp q (by omega)
            have e2 := hsl.frozen hcp (off + q)
            have hlen := hsl.1
            obtain ⟨v, hv⟩ : ∃ v, xs[q]? = some v := ⟨xs[q]'(by omega), List.getElem?_eq_getElem (by omega)⟩
            rw [hv] at e1
            clear hv hlen ho hsl
            obtain ⟨wo, rfl⟩ : ∃ wo : World, wo = wr := ⟨_, rfl⟩
            go_wp2
            go_roundw
            case rel => exact ⟨q + 1, _, by omega, by go_num, HXS.out.set hcp q (by omega) _, HX.out.setCell _ _ (.inl (by simp)) _⟩
            case measure => simp [intOf]; omega
          · obtain rfl : q = 2 + 2 * m := by omega
            have hgz : w1.heap.size + 1 ≤ g := by have := HG.out; simpa using this
            have hz1 := HW1.out.size
            have o1 : Outside [] w1 wr := HOUT2.out.then ho (fun x hx => .inr (by simp at hx; omega))
            have HFIN := hide (HW1.out.trans o1)
            have HSM := hide (same_any a ab m cap m sx wr hl (HS.out.outside (HW1.out.trans o1)) (HSB.out.outside o1) HAB.out)
            clear ho hsl o1 hgz hz1
            obtain ⟨wo, rfl⟩ : ∃ wo : World, wo = wr := ⟨_, rfl⟩
            go_wp2_with (go_at_call 6; go_must (refine (unhide HSM).mono ?_; rintro e w9 ⟨rfl, ho9⟩; have HO9 := hide ho9; clear ho9))
            go_ret
            exact ⟨rfl, below_of_out (HFIN.out.trans HO9.out)⟩

end Go.Proofs.YbulkduloDoor
