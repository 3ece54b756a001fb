/-
  'Request.Args' (5).
-/
import Derived.Test.YbulkduloDoorBase
import Derived.Test.YbulkduloDoorDec
namespace Go.Proofs.YbulkduloDoor
open Go.RowKit
set_option linter.unusedVariables false

abbrev idxS : ByteArray := { data := #[45, 45, 97, 99, 101, 115, 45, 99, 111, 109, 112, 108, 101, 116, 105, 111, 110, 45, 105, 110, 100, 101, 120] }
abbrev argS : ByteArray := { data := #[45, 45, 97, 99, 101, 115, 45, 99, 111, 109, 112, 108, 101, 116, 105, 111, 110, 45, 97, 114, 103, 117, 109, 101, 110, 116] }

/-- The arguments when k words are in. -/
def argv (it : ByteArray) (sx : Nat → ByteArray) (k : Nat) : List Value := [.string idxS, .string it] ++ (List.range k).flatMap fun j => [.string argS, .string (sx j)]
theorem argv_zero (it : ByteArray) (sx : Nat → ByteArray) : argv it sx 0 = [.string idxS, .string it] := rfl
theorem argv_succ (it : ByteArray) (sx : Nat → ByteArray) (k : Nat) : argv it sx (k + 1) = argv it sx k ++ [.string argS, .string (sx k)] := by
  unfold argv
  rw [List.range_succ, List.flatMap_append, ← List.append_assoc]
  simp
theorem argv_len (it : ByteArray) (sx : Nat → ByteArray) (k : Nat) : (argv it sx k).length = 2 + 2 * k := by
  induction k with
  | zero => rfl
  | succ k ih => rw [argv_succ, List.length_append, ih]; simp; omega
theorem argv_get (it : ByteArray) (sx : Nat → ByteArray) (k j : Nat) (h : j < k) : (argv it sx k)[2 + 2 * j]? = some (.string argS) ∧ (argv it sx k)[3 + 2 * j]? = some (.string (sx j)) := by
  induction k with
  | zero => omega
  | succ k ih =>
    rw [argv_succ]
    by_cases hj : j < k
    · rw [List.getElem?_append_left (by rw [argv_len]; omega), List.getElem?_append_left (by rw [argv_len]; omega)]
      exact ih hj
    · obtain rfl : j = k := by omega
      rw [List.getElem?_append_right (by rw [argv_len]; omega), List.getElem?_append_right (by rw [argv_len]; omega), argv_len]
      rw [show 2 + 2 * j - (2 + 2 * j) = 0 by omega, show 3 + 2 * j - (2 + 2 * j) = 1 by omega]
      exact ⟨rfl, rfl⟩
theorem argv_two (it : ByteArray) (sx : Nat → ByteArray) (k : Nat) : (argv it sx k)[0]? = some (.string idxS) ∧ (argv it sx k)[1]? = some (.string it) := ⟨rfl, rfl⟩

theorem tab_out {P : Program} {w w' : World} {name : String} {k : IntKind} {zs : List Int} (h : Lib.TabIs P w name k zs) (ho : Outside [] w w') : Lib.TabIs P w' name k zs := by
  unfold Lib.TabIs World.var? at h ⊢
  cases hg : P.globalNamed name with
  | none => rw [hg] at h; simp at h
  | some g =>
    rw [hg] at h
    simp only [Option.bind_some] at h ⊢
    cases hx : w.heap[g]? with
    | none => rw [hx] at h; simp at h
    | some ob =>
      rw [ho.obj hx (by simp)]
      rw [hx] at h
      exact h
theorem grow_out (w : World) (k : Nat) (os : Array Obj) : Outside [] w (Sort.grow (w.drewN k) os) := by
  have h1 : Outside [] w (w.drewN k) := (Outside.refl [] w).drewN k
  exact h1.trans ⟨rfl, rfl, rfl, by simp, fun i hi _ => Sort.heap_grow_old _ _ hi⟩

theorem made_own {w w2 : World} {ob : Obj} {n : Nat} (ho : Outside [] ((w.alloc ob).alloc (.cells (blank n) 9)) w2) (hn : n ≤ maxLen) : Own (w.alloc ob) w2 9 1 (some ⟨w.heap.size + 1, 0, none⟩) 0 n [] := by
  have e := Slc.made (w.alloc ob) 9 1 (blank n) 0 n (Nat.zero_le _) hn (by simp [blank])
  simp at e
  refine ⟨e.outside ho (by simp), fun g hg => ?_, ((Outside.refl [] _).alloc _).trans ho⟩
  simp only [ownB] at hg
  split at hg
  · simp at hg
  · simp at hg
    simp
    omega
theorem Own.weaken {w w' : World} {ob : Obj} {e : TypeId} {size : Nat} {ao : Option Addr} {n cap : Nat} {xs : List Value} (h : Own (w.alloc ob) w' e size ao n cap xs) : Own w w' e size ao n cap xs :=
  ⟨h.slc, fun g hg => by have := h.own g hg; simp at this; omega, ((Outside.refl [] w).alloc ob).trans h.out⟩
theorem box_cell {w w' : World} {v : Value} {n : Int} (h : Outside [] (w.alloc (.cells #[.int .i64 n, v] 25)) w') : w'.cell? ⟨w.heap.size, 1, none⟩ = some v := by
  refine h.cell ?_ (by simp)
  rw [cell_of_row _ _ _ _ 25 (0, 0) (heap_alloc_new w _)]
  rfl

set_option maxRecDepth 100000 in
set_option maxHeartbeats 2000000 in
theorem args_any (n : Int) (a : Option Addr) (len cap : Nat) (sx : Nat → ByteArray) (w : World) (h0 : -9223372036854775808 ≤ n) (h1 : n ≤ 9223372036854775807) (hl : len ≤ 1048576) (hs : Src w a len cap sx) (htab : Lib.TabIs Ybad.prog w "internal/strconv.uint64pow10" .u64 Lib.pow10Tab) :
    Calls Ybad.prog 5 #[.agg #[.int .i64 n, .slice a len cap]] w fun e w' => ∃ ao cp, e = .returned (.slice ao (2 + 2 * len) cp) ∧ Own w w' 9 1 ao (2 + 2 * len) cp (argv ⟨(Lib.itoa n).toArray⟩ sx len) := by
  obtain ⟨i9, hi9, hz0, hz1, hz2⟩ := info_parts Ybad.info9
  have hmk := mk_room len hl
  have HS := hide hs
  have HIT : Hid (∀ w', Outside [] w w' → Calls Ybad.prog 8 #[.int .i64 n] w' fun e w2 => e = .returned (.string ⟨(Lib.itoa n).toArray⟩) ∧ Outside [] w' w2) := fun w' ho => (itoa_any n h0 h1 w' (tab_out htab ho)).mono fun e w2 ⟨he, k, os, hw⟩ => ⟨he, by rw [hw]; exact grow_out w' k os⟩
  generalize hit : (⟨(Lib.itoa n).toArray⟩ : ByteArray) = it at *
  clear hs htab hit
  go_enter Ybad.func5, Ybad.ntmps5
  have tok : True := trivial
  go_wp2_with (first
    | (go_at_call 8; go_must (refine (HIT.out _ (((Outside.refl [] w).alloc _).alloc _)).mono ?_; rintro e w2 ⟨rfl, ho2⟩; have HM := hide (made_own (n := 2 + 2 * len) ho2 (by unfold maxLen; omega)); clear ho2))
    | (at_builtin; go_must (have _t := tok; refine wpList_append_cut _ rfl (.tmp 12) (.tmp 16) 22 rfl 9 i9 (.string ByteArray.empty) 1 16 Ybad.underlying22 hi9 hz0 hz1 hz2 rfl (by decide) _ 0 (2 + 2 * len) [] rfl (slc_alloc HM.out.slc _) ⟨_, 0, none⟩ 2 2 [.string idxS, .string it] rfl rfl (news_cells [.string idxS, .string it] 9 _ rfl) (two_one _ _) (by decide) (by unfold maxLen; omega) (by omega) ?_; intro ao' cap' w3 hs3 ho3 how3; have HN := hide (HM.out.next _ hs3 ho3 how3); have b3 := box_cell HN.out.out; clear hs3 ho3 how3 tok _t)))
  go_loopw [3, 21] (fun v iv wx => ∃ (k : Nat) (ao : Option Addr) (cp : Nat), k ≤ len ∧ v = .slice ao (2 + 2 * k) cp ∧ iv = .int .i64 (k : Int) ∧ Own (w.alloc (.cells #[.int .i64 n, .slice a len cap] 25)) wx 9 1 ao (2 + 2 * k) cp (argv it sx k)) (fun _ iv _ => len - (intOf iv).toNat)
  case atStart => exact ⟨0, ao', cap', Nat.zero_le _, rfl, rfl, HN.out⟩
  case round =>
    clear HN HM b3 hmk
    obtain ⟨k, ao, cp, hk, rfl, rfl, hown⟩ := hrel
    have HO := hide hown
    have HSU := hide (argv_succ it sx k)
    clear hown
    by_cases hkl : k < len
    · obtain ⟨b, off, rfl, hb, hcs⟩ := HS.out.at_ (by omega)
      have y0 := HO.out.weaken.out.cell (hcs k hkl) (by simp)
      clear hcs
      obtain ⟨wo, rfl⟩ : ∃ wo : World, wo = wr := ⟨_, rfl⟩
      generalize sx k = s0 at *
      have tok : True := trivial
      go_wp2_with (at_builtin; go_must (have _t := tok; refine wpList_append_cut _ rfl (.tmp 25) (.tmp 27) 22 rfl 9 i9 (.string ByteArray.empty) 1 16 Ybad.underlying22 hi9 hz0 hz1 hz2 rfl (by decide) ao (2 + 2 * k) cp (argv it sx k) rfl (slc_alloc HO.out.slc _) ⟨_, 0, none⟩ 2 2 [.string argS, .string s0] rfl rfl (news_cells [.string argS, .string s0] 9 _ rfl) (two_one _ _) (by decide) (by unfold maxLen; omega) (by omega) ?_; intro ao' cap' w3 hs3 ho3 how3; have HN := hide (HO.out.next _ hs3 ho3 how3); clear hs3 ho3 how3 tok _t))
      go_roundw
      case rel =>
        refine ⟨k + 1, ao', cap', by omega, ?_, by go_num, ?_⟩
        · rw [show 2 + 2 * (k + 1) = 2 + 2 * k + 2 by omega]
        · rw [HSU.out, show 2 + 2 * (k + 1) = 2 + 2 * k + 2 by omega]; exact HN.out
      case measure => simp [intOf]; omega
    · obtain rfl : k = len := by omega
      go_wp2
      go_ret
      exact ⟨ao, cp, rfl, HO.out.weaken⟩

end Go.Proofs.YbulkduloDoor
