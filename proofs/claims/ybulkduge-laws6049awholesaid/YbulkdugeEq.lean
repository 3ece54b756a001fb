/-
  THE WALK OF 'zzs6049aeq' (12) AT TWO SLICES OF THE SAME MESSAGES.
-/
import Derived.Test.YbulkdugeIter
namespace Go.Proofs.Ybulkduge
open Go.RowKit
set_option linter.unusedVariables false

theorem Slc.msg {w : World} {g off n cap : Nat} {ms : List Msg} (h : Slc w 26 4 (some ⟨g, off, none⟩) n cap (flat ms)) (hn : ms.length = n) (k : Nat) (hk : k < ms.length) :
    w.cell? ⟨g, off + k * 4, none⟩ = some (.int .i64 (ms[k]).1) ∧ w.cell? ⟨g, off + k * 4 + 1, none⟩ = some (.int .i64 (ms[k]).2.1) ∧ w.cell? ⟨g, off + k * 4 + 2, none⟩ = some (.int .i64 (ms[k]).2.2) ∧ w.cell? ⟨g, off + k * 4 + 3, none⟩ = some .nilIface := by
  have hc := h.2.1
  have c : ∀ j, j < n * 4 → w.cell? ⟨g, off + j, none⟩ = (flat ms)[j]? := fun j hj => h.cell (by omega) j hj
  obtain ⟨f0, f1, f2, f3⟩ := flat_get ms k hk
  rw [Nat.add_assoc off, Nat.add_assoc off, Nat.add_assoc off, c _ (by omega), c _ (by omega), c _ (by omega), c _ (by omega)]
  exact ⟨f0, f1, f2, f3⟩

set_option maxRecDepth 100000 in
set_option maxHeartbeats 1000000 in
theorem eq_same (a1 a2 : Option Addr) (c1 c2 n : Nat) (ms : List Msg) (w : World) (h1 : Slc w 26 4 a1 n c1 (flat ms)) (h2 : Slc w 26 4 a2 n c2 (flat ms)) (hn : ms.length = n) (hb : n ≤ 800000000) :
    Calls Yba.prog 12 #[.slice a1 n c1, .slice a2 n c2] w fun e w' => e = .returned (.bool true) ∧ Outside [] w w' := by
  have H1 := hide h1
  have H2 := hide h2
  have HN := hide hn
  clear h1 h2 hn
  go_enter Yba.func12, Yba.ntmps12
  go_wp2
  go_loopw [5] (fun i wr => ∃ k : Nat, k ≤ n ∧ i = .int .i64 k ∧ Outside [] w wr) (fun i _ => n - (intOf i).toNat)
  case atStart => exact ⟨0, Nat.zero_le _, rfl, Outside.refl _ _⟩
  case round =>
    obtain ⟨k, hk, rfl, ho⟩ := hrel
    have HO := hide ho
    by_cases hlt : k < n
    · have hkm : k < ms.length := by rw [HN.out]; exact hlt
      have s1 := H1.out.outside ho (by simp)
      have s2 := H2.out.outside ho (by simp)
      have hc1 := s1.2.1
      have hc2 := s2.2.1
      obtain ⟨g1, o1, cur1, e1, hh1, _⟩ := s1.at_ (by omega)
      obtain ⟨g2, o2, cur2, e2, hh2, _⟩ := s2.at_ (by omega)
      have l1 := lt_of_block hh1
      have l2 := lt_of_block hh2
      subst e1 e2
      obtain ⟨p0, p1, p2, p3⟩ := s1.msg HN.out k hkm
      obtain ⟨q0, q1, q2, q3⟩ := s2.msg HN.out k hkm
      generalize ms[k] = m at *
      clear s1 s2 ho hh1 hh2
      go_wp2
      go_region
      all_goals
        go_wp2
        go_roundw
        case rel => exact ⟨k + 1, by omega, by go_num, ((HO.out.alloc _).alloc _).drew⟩
        case measure => simp [intOf]; omega
    · clear ho
      go_wp2
      go_ret
      exact ⟨rfl, HO.out⟩
end Go.Proofs.Ybulkduge
