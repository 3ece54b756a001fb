/-
  'strings.HasPrefix' (6, 7) AND 'zzs6059bhas' (5).
-/
import Derived.Test.YbulkduloSlc
import Derived.Test.YbulkduloProg
import Derived.WalkLawsBesides
import Derived.WalkSpells
import Derived.Outline
import Derived.Deep.RegionWith
namespace Go.Proofs.Ybulkdulo
open Go.RowKit
set_option linter.unusedVariables false

/-- Whether s begins with p. -/
def has (s p : ByteArray) : Bool := if p.size ≤ s.size then (s.extract 0 p.size).toList == p.toList else false

theorem ext_get (s : ByteArray) (n j : Nat) (hn : n ≤ s.size) (hj : j < n) : (s.extract 0 n).toList[j]? = s.data[j]? := by
  rw [ByteArray.toList_eq]
  have : (s.extract 0 n).data = s.data.extract 0 n := by simp [ByteArray.data_extract]
  rw [this, Array.getElem?_toList, Array.getElem?_extract]
  have h1 : s.data.size = s.size := rfl
  rw [if_pos (by omega), Nat.zero_add]
theorem ext_len (s : ByteArray) (n : Nat) (hn : n ≤ s.size) : (s.extract 0 n).toList.length = n := by
  rw [ByteArray.toList_eq]
  have : (s.extract 0 n).data = s.data.extract 0 n := by simp [ByteArray.data_extract]
  rw [this, Array.length_toList, Array.size_extract]
  have h1 : s.data.size = s.size := rfl
  omega
theorem has_true {s p : ByteArray} (h : p.size ≤ s.size) (hall : ∀ j, j < p.size → s.data[j]? = p.data[j]?) : has s p = true := by
  unfold has
  rw [if_pos h, beq_iff_eq]
  apply List.ext_getElem?
  intro j
  by_cases hj : j < p.size
  · rw [ext_get s _ j h hj, hall j hj, ByteArray.toList_eq, Array.getElem?_toList]
  · rw [List.getElem?_eq_none (by rw [ext_len s _ h]; omega), ByteArray.toList_eq, List.getElem?_eq_none (by rw [Array.length_toList]; show p.size ≤ j; omega)]
theorem has_false {s p : ByteArray} (h : p.size ≤ s.size) {i : Nat} (hi : i < p.size) (hne : s.data[i]? ≠ p.data[i]?) : has s p = false := by
  unfold has
  rw [if_pos h, beq_eq_false_iff_ne]
  intro e
  apply hne
  rw [← ext_get s _ i h hi, e, ByteArray.toList_eq, Array.getElem?_toList]

set_option maxRecDepth 100000 in
theorem hp7 (s p : ByteArray) (w : World) (hs : s.size ≤ maxLen) (hp : p.size ≤ maxLen) : Calls Yba.prog 7 #[.string s, .string p] w fun e w' => e = .returned (.bool (has s p)) ∧ w' = w := by
  unfold maxLen at hs hp
  by_cases h : p.size ≤ s.size
  · have hd : decide ((p.size : Int) ≤ (s.size : Int)) = true := decide_eq_true (by omega)
    go_enter Yba.func7, Yba.ntmps7
    go_wp2
    go_ret
    refine ⟨?_, rfl⟩
    unfold has
    rw [if_pos h]
    rfl
  · have hd : decide ((p.size : Int) ≤ (s.size : Int)) = false := decide_eq_false (by omega)
    go_enter Yba.func7, Yba.ntmps7
    go_wp2
    go_ret
    refine ⟨?_, rfl⟩
    unfold has
    rw [if_neg h]
    rfl

theorem hp6 (s p : ByteArray) (w : World) (hs : s.size ≤ maxLen) (hp : p.size ≤ maxLen) : Calls Yba.prog 6 #[.string s, .string p] w fun e w' => e = .returned (.bool (has s p)) ∧ w' = w := by
  have H := hide (hp7 s p w hs hp)
  clear hs hp
  go_enter Yba.func6, Yba.ntmps6
  go_wp2_with (go_at_call 7; go_must (refine (unhide H).mono ?_; rintro e w' ⟨rfl, rfl⟩))
  go_ret
  exact ⟨rfl, rfl⟩

set_option maxRecDepth 100000 in
theorem zz5 (s p : ByteArray) (w : World) (hs : s.size ≤ maxLen) (hp : p.size ≤ maxLen) : Calls Yba.prog 5 #[.string s, .string p] w fun e w' => e = .returned (.bool (has s p)) ∧ Outside [] w w' := by
  unfold maxLen at hs hp
  by_cases h : p.size ≤ s.size
  · have hd : decide ((s.size : Int) < (p.size : Int)) = false := decide_eq_false (by omega)
    go_enter Yba.func5, Yba.ntmps5
    go_wp2
    go_loopw [5] (fun iv wr => ∃ i : Nat, i ≤ p.size ∧ iv = .int .i64 (i : Int) ∧ (∀ j, j < i → s.data[j]? = p.data[j]?) ∧ Outside [] w wr) (fun iv _ => p.size - (intOf iv).toNat)
    case atStart => exact ⟨0, Nat.zero_le _, rfl, fun j hj => absurd hj (Nat.not_lt_zero _), Outside.refl _ _⟩
    case round =>
      obtain ⟨i, hi, rfl, hall, ho⟩ := hrel
      have HA := hide hall
      have HO := hide ho
      clear hall ho
      by_cases hip : i < p.size
      · have his : i < s.size := by omega
        have hne : s.data[i]? = some s[i] := by rw [Array.getElem?_eq_getElem (show i < s.data.size from his)]; rfl
        have hnp : p.data[i]? = some p[i] := by rw [Array.getElem?_eq_getElem (show i < p.data.size from hip)]; rfl
        have HS := hide hne
        have HP := hide hnp
        clear hne hnp
        go_wp2_with fail
        go_quiet (fail)
        go_wp2
        · rename_i hx
          have hx' : ¬ (s[i].toNat : Int) = (p[i].toNat : Int) := by simpa using hx
          go_ret
          refine ⟨?_, HO.out.drewN nq⟩
          rw [has_false h hip (by rw [HS.out, HP.out]; intro e; apply hx'; rw [Option.some.inj e])]
          rfl
        · rename_i hx
          have hx' : (s[i].toNat : Int) = (p[i].toNat : Int) := by simpa using hx
          refine ⟨⟨i + 1, by omega, by go_num, fun j hj => ?_, HO.out.drewN nq⟩, by simp [intOf]; omega⟩
          by_cases hji : j = i
          · subst hji
            rw [HS.out, HP.out]
            congr 1
            exact UInt8.toNat_inj.1 (by omega)
          · exact HA.out j (by omega)
      · obtain rfl : i = p.size := by omega
        go_wp2
        go_ret
        refine ⟨?_, HO.out⟩
        rw [has_true h HA.out]
        rfl
  · have hd : decide ((s.size : Int) < (p.size : Int)) = true := decide_eq_true (by omega)
    go_enter Yba.func5, Yba.ntmps5
    go_wp2
    go_ret
    refine ⟨?_, Outside.refl _ _⟩
    unfold has
    rw [if_neg h]
    rfl

end Go.Proofs.Ybulkdulo
