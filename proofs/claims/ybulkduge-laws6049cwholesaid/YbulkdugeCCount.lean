/-
  THE WALK OF '(*checkedTally).count' (26) (law C).
-/
import Derived.Test.YbulkdugeCLog
namespace Go.Proofs.Ybulkduge
open Go.RowKit
set_option linter.unusedVariables false

theorem report_any (T LG sd R c M t : Nat) (f : Bool) (ao : Option Addr) (cap : Nat) (ps : List Pg) (w : World) (ht : w.heap[T]? = some (tob LG sd R 1 c f M t)) (h : LV w LG R ao cap ps) (hn : ps.length ≤ 100000) (hc : c ≤ 100000) (hc0 : 0 < c) (hsd : sd < 2 ^ 64) :
    Calls Yba.prog 31 #[.pointer (some ⟨T, 0, none⟩), .bool false] w fun e w' => e = .returned (.tuple #[]) ∧ ∃ ao' cap', LV w' LG R ao' cap' (ps ++ [⟨c, f, seedV sd c f⟩]) ∧ Turn [LG] w w' ao cap ao' cap' := by
  cases f with
  | false => exact report_f T LG sd R c M t ao cap ps w ht h hn hc
  | true => exact report_t T LG sd R c M t ao cap ps w ht h hn hc hc0 hsd

theorem tob_set {w : World} {T LG sd R lock c : Nat} {f : Bool} {M t : Nat} (h : w.heap[T]? = some (tob LG sd R lock c f M t)) :
    (∀ c' : Nat, (w.setCell ⟨T, 5, none⟩ (.int .u64 (c' : Int))).heap[T]? = some (tob LG sd R lock c' f M t)) ∧ (∀ f' : Bool, (w.setCell ⟨T, 6, none⟩ (.bool f')).heap[T]? = some (tob LG sd R lock c f' M t)) ∧ (∀ t' : Nat, (w.setCell ⟨T, 8, none⟩ (.int .i64 (t' : Int))).heap[T]? = some (tob LG sd R lock c f M t')) ∧
    (∀ l : Nat, (w.setCell ⟨T, 3, none⟩ (.int .i32 (l : Int))).heap[T]? = some (tob LG sd R l c f M t)) := by
  unfold tob at h ⊢
  refine ⟨fun _ => ?_, fun _ => ?_, fun _ => ?_, fun _ => ?_⟩ <;> (rw [heap_setCell_same w T _ _ 73 _ h]; rfl)

/-- The tenths that the tally in block T holds. -/
def tOf (T : Nat) (w : World) : Nat := match w.cell? ⟨T, 8, none⟩ with
  | some (.int _ n) => n.toNat
  | _ => 0
theorem tOf_eq {w : World} {T LG sd R lock c : Nat} {f : Bool} {M t : Nat} (h : w.heap[T]? = some (tob LG sd R lock c f M t)) : tOf T w = t := by
  have := (tob_cell h).2.2.2.2.2.2.2
  simp [tOf, this]

theorem climb {R c t t' : Nat} (h1 : t ≤ t') (h2 : t' ≤ upT R c t) (h : t' < 10) (hq : tenthN R (t' + 1) ≤ c) : t' + 1 ≤ upT R c t := by
  have h3 := (tn_reach R c 10 (t' + 1) (by omega) (by omega)).1 ((tenthN_le R (t' + 1) c).1 hq)
  unfold upT at h2 ⊢
  split <;> omega
theorem top {R c t t' : Nat} (h1 : t ≤ t') (h2 : t' ≤ upT R c t) (h : t' < 10) (hq : c < tenthN R (t' + 1)) : t' = upT R c t := by
  have h3 : ¬ t' + 1 ≤ tn R c 10 := fun hh => by
    have := (tenthN_le R (t' + 1) c).2 ((tn_reach R c 10 (t' + 1) (by omega) (by omega)).2 hh)
    omega
  unfold upT at h2 ⊢
  split at h2
  · rw [if_pos (by assumption)]; omega
  · rw [if_neg (by assumption)]; omega

/-- What 'count' leaves. -/
def Counted (T LG sd R c M t : Nat) (g : Bool) (ao : Option Addr) (cap : Nat) (ps : List Pg) (w w' : World) : Prop :=
  ∃ ao' cap', w'.heap[T]? = some (tob LG sd R 1 (c + 1) g M (upT R (c + 1) t)) ∧ LV w' LG R ao' cap' (if t < tn R (c + 1) 10 then ps ++ [⟨c + 1, g, seedV sd (c + 1) g⟩] else ps) ∧ Turn [T, LG] w w' ao cap ao' cap'

/-- The loop is left: a report where the tenths have gone up, none where not. -/
theorem count_exit (T LG sd R c M t t' : Nat) (g : Bool) (ao : Option Addr) (cap : Nat) (ps : List Pg) (w wr : World) (h : LV w LG R ao cap ps) (hh : wr.heap[T]? = some (tob LG sd R 1 (c + 1) g M t')) (ho : Outside [T] w wr) (htop : t' = upT R (c + 1) t) (hn : ps.length ≤ 90000) (hc : c ≤ 90000) (hsd : sd < 2 ^ 64) (hTL : T ∉ ownB ao cap) (hne : T ≠ LG) :
    (t < t' → ∀ n, Calls Yba.prog 31 #[.pointer (some ⟨T, 0, none⟩), .bool false] (wr.drewN n) fun e w' => e = .returned (.tuple #[]) ∧ Counted T LG sd R c M t g ao cap ps w w') ∧
    (¬ t < t' → ∀ n, Counted T LG sd R c M t g ao cap ps w (wr.drewN n)) := by
  have hL : LV wr LG R ao cap ps := h.outside ho (by simp; exact fun e => hne e.symm) (fun x hx => by simp; rintro rfl; exact hTL hx)
  have hiff : t < t' ↔ t < tn R (c + 1) 10 := by
    rw [htop]
    unfold upT
    split <;> omega
  subst htop
  unfold Counted
  constructor
  · intro hr n
    have hD : Outside [] wr (wr.drewN n) := (Outside.refl [] wr).drewN n
    rw [if_pos (hiff.1 hr)]
    refine (report_any T LG sd R (c + 1) M _ g ao cap ps _ (hD.obj hh (by simp)) (lv_later hL hD) (by omega) (by omega) (by omega) hsd).mono ?_
    rintro e w' ⟨rfl, ao', cap', h1, h2⟩
    refine ⟨rfl, ao', cap', ?_, h1, ((Turn.of_out (ho.drewN n) ao cap).mono (by simp)).trans (h2.mono (by simp))⟩
    refine h2.out.obj (hD.obj hh (by simp)) ?_
    simp only [List.cons_append, List.nil_append, List.mem_cons, not_or]
    exact ⟨hne, hTL⟩
  · intro hr n
    have hD : Outside [] wr (wr.drewN n) := (Outside.refl [] wr).drewN n
    rw [if_neg (fun x => hr (hiff.2 x))]
    exact ⟨ao, cap, hD.obj hh (by simp), lv_later hL hD, (Turn.of_out (ho.drewN n) ao cap).mono (by simp)⟩

set_option maxRecDepth 100000 in
set_option maxHeartbeats 1000000 in
theorem count_any (T LG sd R c M t : Nat) (f g : Bool) (ao : Option Addr) (cap : Nat) (ps : List Pg) (w : World) (ht : w.heap[T]? = some (tob LG sd R 1 c f M t)) (h : LV w LG R ao cap ps) (hn : ps.length ≤ 90000) (hc : c ≤ 90000) (hsd : sd < 2 ^ 64) (hR : R < 9223372036854775808) (ht10 : t ≤ 10) (hTL : T ∉ ownB ao cap) (hne : T ≠ LG) :
    Calls Yba.prog 26 #[.pointer (some ⟨T, 0, none⟩), .bool g] w fun e w' => e = .returned (.tuple #[]) ∧ Counted T LG sd R c M t g ao cap ps w w' := by
  obtain ⟨c0, c1, c2, c3, c5, c6, c7, c8⟩ := tob_cell ht
  have f5 := tob_free ht 5
  have f6 := tob_free ht 6
  have hlt := lt_of_block ht
  have HL := hide h
  have HT := hide ht
  have HTL := hide hTL
  clear h ht hTL
  go_enter Yba.func26, Yba.ntmps26
  go_wp2
  go_loopw [4] (fun r wr => ∃ t' : Nat, t ≤ t' ∧ t' ≤ upT R (c + 1) t ∧ r = .bool (decide (t < t')) ∧ wr.heap[T]? = some (tob LG sd R 1 (c + 1) g M t') ∧ Outside [T] w wr) (fun _ wr => 10 - tOf T wr)
  case atStart =>
    refine ⟨t, Nat.le_refl _, by unfold upT; split <;> omega, by simp, ?_, ((Outside.refl [T] w).setCell T 5 (.inl (by simp)) _).setCell T 6 (.inl (by simp)) _⟩
    exact (tob_set ((tob_set HT.out).1 (c + 1))).2.1 g
  case round =>
    obtain ⟨t', h1, h2, rfl, hh, ho⟩ := hrel
    have h10 : t' ≤ 10 := Nat.le_trans h2 (upT_le _ _ _ ht10)
    have HU := hide h2
    have HH := hide hh
    have HO := hide ho
    obtain ⟨d0, d1, d2, d3, d5, d6, d7, d8⟩ := tob_cell hh
    have g8 := tob_free hh 8
    have hlr := lt_of_block hh
    clear h2 hh ho c0 c1 c2 c3 c5 c6 c7 c8 f5 f6 d0 d1 d3 d6 d7
    by_cases h : t' < 10
    · have HQ := hide (fun W => tenth_any R (t' + 1) W hR (by omega))
      have hqb := tenthN_bound R (t' + 1) (by omega)
      have HC := hide (fun hq => climb (R := R) (c := c + 1) h1 HU.out h hq)
      have HP := hide (fun hq => top (R := R) (c := c + 1) h1 HU.out h hq)
      generalize tenthN R (t' + 1) = q at *
      have hd1 : decide (t' < 10) = true := decide_eq_true h
      have hd2 : decide ((t' : Int) < 10) = true := decide_eq_true (by omega)
      by_cases hq : q ≤ c + 1
      · go_wp2_with fail
        go_quiet ((go_at_call 30; exact Calls.quiet_of_same (unhide HQ _)))
        go_wp2
        go_roundw
        case rel =>
          refine ⟨t' + 1, by omega, HC.out hq, by simp; omega, ?_, ?_⟩
          · exact (tob_set (((Outside.refl [] wr).drewN _).obj HH.out (by simp))).2.2.1 (t' + 1)
          · exact (HO.out.drewN _).setCell T 8 (.inl (by simp)) _
        case measure =>
          have e1 := tOf_eq HH.out
          have e2 : tOf T ((wr.drewN nq).setCell ⟨T, 8, none⟩ (.int .i64 ((t' : Int) + 1))) = t' + 1 := tOf_eq ((tob_set (((Outside.refl [] wr).drewN nq).obj HH.out (by simp))).2.2.1 (t' + 1))
          rw [e1, e2]
          omega
      · have htop := HP.out (by omega)
        have HE := hide (count_exit T LG sd R c M t t' g ao cap ps w wr HL.out HH.out HO.out htop hn hc hsd HTL.out hne)
        clear htop
        by_cases hr : t < t'
        · have hr1 : decide (t < t') = true := decide_eq_true hr
          go_wp2_with fail
          go_quiet ((go_at_call 30; exact Calls.quiet_of_same (unhide HQ _)))
          go_wp2_with (go_at_call 31; refine ((unhide HE).1 hr _).mono ?_; rintro e w' ⟨rfl, hy⟩; have HZ := hide hy; clear hy)
          go_end0
          exact ⟨rfl, HZ.out⟩
        · have hr1 : decide (t < t') = false := decide_eq_false hr
          go_wp2_with fail
          go_quiet ((go_at_call 30; exact Calls.quiet_of_same (unhide HQ _)))
          go_wp2
          go_end0
          exact ⟨rfl, (unhide HE).2 hr _⟩
    · have htop : t' = upT R (c + 1) t := by
        have := HU.out
        have := upT_le R (c + 1) t ht10
        omega
      have HE := hide (count_exit T LG sd R c M t t' g ao cap ps w wr HL.out HH.out HO.out htop hn hc hsd HTL.out hne)
      clear htop
      have hd1 : decide (t' < 10) = false := decide_eq_false h
      have hd2 : decide ((t' : Int) < 10) = false := decide_eq_false (by omega)
      by_cases hr : t < t'
      · have hr1 : decide (t < t') = true := decide_eq_true hr
        go_wp2_with fail
        go_quiet (fail)
        go_wp2_with (go_at_call 31; refine ((unhide HE).1 hr _).mono ?_; rintro e w' ⟨rfl, hy⟩; have HZ := hide hy; clear hy)
        go_end0
        exact ⟨rfl, HZ.out⟩
      · have hr1 : decide (t < t') = false := decide_eq_false hr
        go_wp2_with fail
        go_quiet (fail)
        go_wp2
        go_end0
        exact ⟨rfl, (unhide HE).2 hr _⟩

end Go.Proofs.Ybulkduge
