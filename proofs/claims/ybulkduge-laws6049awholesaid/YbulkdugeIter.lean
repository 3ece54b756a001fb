/-
  THE WALKS OF '(*messageList).values' (11) AND OF ITS ITERATOR (23), ONCE FOR EACH OF THE LAW's CLOSURES.
-/
import Derived.Test.YbulkdugeYield
namespace Go.Proofs.Ybulkduge
open Go.RowKit
set_option linter.unusedVariables false

set_option maxHeartbeats 400000 in
theorem values_any (L : Nat) (w : World) : Calls Yba.prog 11 #[.pointer (some ⟨L, 0, none⟩)] w fun e w' => e = .returned (.func (.func 23) #[] #[.pointer (some ⟨w.heap.size, 0, none⟩)]) ∧ w' = w.alloc (.cells #[.pointer (some ⟨L, 0, none⟩)] 76) := by
  go_enter Yba.func11, Yba.ntmps11
  go_wp2
  go_ret
  exact ⟨rfl, rfl⟩

theorem Slc.not_own {w : World} {e e' : TypeId} {size : Nat} {ao : Option Addr} {n cap : Nat} {xs : List Value} (h : Slc w e size ao n cap xs) {b : Nat} {cs : Array Value} (hb : w.heap[b]? = some (.cells cs e' (0, 0))) (hne : e ≠ e') : b ∉ ownB ao cap := by
  intro hm
  have h0 : cap ≠ 0 := by intro h0; simp [ownB, h0] at hm
  obtain ⟨g, off, cur, he, hh, _⟩ := h.at_ (by omega)
  simp only [ownB, h0, if_false, he] at hm
  simp at hm
  subst hm
  rw [hh] at hb
  simp at hb
  exact hne hb.2

/-- What the loop's head knows. -/
def Iter (w0 w : World) (L : Nat) (F : List Nat) (c : Nat) (ms : List Msg) (BG BP : Nat) (gs : List Msg) : Prop :=
  ∃ ao cap, GV w BG ao cap gs ∧ LL w L F c ms ∧ w.heap[BP]? = some (.cells #[.pointer (some ⟨L, 0, none⟩)] 76 (0, 0)) ∧ Below BG w0 w

theorem Iter.step {w0 w w' : World} {L : Nat} {F : List Nat} {c : Nat} {ms : List Msg} {BG BP : Nat} {gs gs' : List Msg} {ao ao' : Option Addr} {cap cap' : Nat} (hg : GV w BG ao cap gs) (hl : LL w L F c ms) (hp : w.heap[BP]? = some (.cells #[.pointer (some ⟨L, 0, none⟩)] 76 (0, 0))) (hb : Below BG w0 w)
    (hF : ∀ k ∈ F, k < BG) (hBP : BG < BP) (hg' : GV w' BG ao' cap' gs') (ho : Outside (BG :: ownB ao cap) w w') : Iter w0 w' L F c ms BG BP gs' := by
  have hbel : Below BG w w' := by
    have hlt := lt_of_block hg.1
    exact ho.below (Below.refl _ _) (by omega) (by intro x hx; simp at hx; rcases hx with rfl | hx; exact Nat.le_refl _; have := hg.2.2 x hx; omega)
  refine ⟨ao', cap', hg', hl.below hbel hF, ?_, hb.trans hbel⟩
  refine ho.obj hp ?_
  simp only [List.mem_cons, not_or]
  exact ⟨by omega, hg.2.1.not_own hp (by decide)⟩

def want (stop : Nat) (ms : List Msg) : List Msg := if stop = 0 then ms else ms.take stop

set_option maxRecDepth 100000 in
set_option maxHeartbeats 1000000 in
theorem iter_all (L : Nat) (F : List Nat) (c : Nat) (ms : List Msg) (BG BP : Nat) (w : World) (h : Iter w w L F c ms BG BP []) (hF : ∀ k ∈ F, k < BG) (hBP : BG < BP) (hn : ms.length ≤ 800000000) :
    Calls Yba.prog 23 #[.func (.func 13) #[] #[.pointer (some ⟨BG, 0, none⟩)], .pointer (some ⟨BP, 0, none⟩)] w fun e w' => e = .returned (.tuple #[]) ∧ Iter w w' L F c ms BG BP ms := by
  have HI := hide h
  have HF := hide hF
  obtain ⟨ao, cap, hg, hl, hp, hb⟩ := h
  have cp : w.cell? ⟨BP, 0, none⟩ = some (.pointer (some ⟨L, 0, none⟩)) := cell_of_one hp
  have c2 := hl.count
  clear hg hl hp hb hF
  go_enter Yba.func23, Yba.ntmps23
  go_wp2
  go_loopw [8] (fun i wr => ∃ k : Nat, k ≤ ms.length ∧ i = .int .i64 k ∧ Iter w wr L F c ms BG BP (ms.take k)) (fun i _ => ms.length - (intOf i).toNat)
  case atStart => exact ⟨0, Nat.zero_le _, rfl, HI.out⟩
  case round =>
    obtain ⟨k, hk, rfl, ao, cap, hg, hl, hp, hb⟩ := hrel
    by_cases hlt : k < ms.length
    · obtain ⟨g, p, hat, a0, a1, a2, a3⟩ := at_ll hl k hlt hn
      have H1 := hide hat
      have HS := hide (show GV wr BG ao cap (ms.take k) ∧ LL wr L F c ms ∧ wr.heap[BP]? = some (.cells #[.pointer (some ⟨L, 0, none⟩)] 76 (0, 0)) ∧ Below BG w wr from ⟨hg, hl, hp, hb⟩)
      have cpr : wr.cell? ⟨BP, 0, none⟩ = some (.pointer (some ⟨L, 0, none⟩)) := cell_of_one hp
      have htl : (ms.take k).length ≤ 800000000 := by simp; omega
      have HY := hide (yield_all BG ao cap (ms.take k) ms[k] wr hg htl)
      clear hg hl hp hb hat
      generalize hm : ms[k] = m at *
      go_wp2_with (first
        | (go_at_call 21; refine (unhide H1).mono ?_; rintro e w' ⟨rfl, rfl⟩)
        | (go_at_call 13; refine (unhide HY).mono ?_; rintro e w2 ⟨rfl, hy⟩; have HZ := hide hy; clear hy))
      go_roundw
      case rel =>
        obtain ⟨ao', cap', hg', ho'⟩ := HZ.out
        have e : ms.take (k + 1) = ms.take k ++ [m] := by rw [List.take_succ_eq_append_getElem hlt, hm]
        exact ⟨k + 1, by omega, by go_num, by rw [e]; exact Iter.step HS.out.1 HS.out.2.1 HS.out.2.2.1 HS.out.2.2.2 HF.out hBP hg' ho'⟩
      case measure => simp [intOf]; omega
    · obtain rfl : k = ms.length := by omega
      rw [List.take_length] at hg
      have HS := hide (show Iter w wr L F c ms BG BP ms from ⟨ao, cap, hg, hl, hp, hb⟩)
      clear hg hl hp hb
      go_wp2
      go_end0
      exact ⟨rfl, HS.out⟩

set_option maxRecDepth 100000 in
set_option maxHeartbeats 1000000 in
theorem iter_stop (L : Nat) (F : List Nat) (c : Nat) (ms : List Msg) (BG BP BS stop : Nat) (w : World) (h : Iter w w L F c ms BG BP []) (hF : ∀ k ∈ F, k < BG) (hBP : BG < BP) (hn : ms.length ≤ 800000000) (hst : stop ≤ 255) (hBS : BS < BG) (cs : w.cell? ⟨BS, 0, none⟩ = some (.int .u8 stop)) :
    Calls Yba.prog 23 #[.func (.func 10) #[] #[.pointer (some ⟨BG, 0, none⟩), .pointer (some ⟨BS, 0, none⟩)], .pointer (some ⟨BP, 0, none⟩)] w fun e w' => e = .returned (.tuple #[]) ∧ Iter w w' L F c ms BG BP (want stop ms) := by
  have HI := hide h
  have HF := hide hF
  have HC := hide cs
  obtain ⟨ao, cap, hg, hl, hp, hb⟩ := h
  have cp : w.cell? ⟨BP, 0, none⟩ = some (.pointer (some ⟨L, 0, none⟩)) := cell_of_one hp
  have c2 := hl.count
  clear hg hl hp hb hF cs
  go_enter Yba.func23, Yba.ntmps23
  go_wp2
  go_loopw [8] (fun i wr => ∃ k : Nat, k ≤ ms.length ∧ i = .int .i64 k ∧ (stop = 0 ∨ k < stop) ∧ Iter w wr L F c ms BG BP (ms.take k)) (fun i _ => ms.length - (intOf i).toNat)
  case atStart => exact ⟨0, Nat.zero_le _, rfl, by omega, HI.out⟩
  case round =>
    obtain ⟨k, hk, rfl, hks, ao, cap, hg, hl, hp, hb⟩ := hrel
    have HKS := hide hks
    clear hks
    by_cases hlt : k < ms.length
    · obtain ⟨g, p, hat, a0, a1, a2, a3⟩ := at_ll hl k hlt hn
      have H1 := hide hat
      have HS := hide (show GV wr BG ao cap (ms.take k) ∧ LL wr L F c ms ∧ wr.heap[BP]? = some (.cells #[.pointer (some ⟨L, 0, none⟩)] 76 (0, 0)) ∧ Below BG w wr from ⟨hg, hl, hp, hb⟩)
      have cpr : wr.cell? ⟨BP, 0, none⟩ = some (.pointer (some ⟨L, 0, none⟩)) := cell_of_one hp
      have htl : (ms.take k).length ≤ 800000000 := by simp; omega
      have csr : wr.cell? ⟨BS, 0, none⟩ = some (.int .u8 stop) := (hb.cell hBS).trans HC.out
      have hY := yield_stop BG BS stop ao cap (ms.take k) ms[k] wr hg htl hst csr hBS
      have etl : (ms.take k).length = k := by simp; omega
      rw [etl] at hY
      clear hg hl hp hb hat etl
      generalize hm : ms[k] = m at *
      have HM := hide hm
      clear hm
      by_cases hgo : stop = 0 ∨ k + 1 < stop
      · rw [decide_eq_true hgo] at hY
        have HY := hide hY
        clear hY
        have HGO := hide hgo
        clear hgo
        go_wp2_with (first
          | (go_at_call 21; refine (unhide H1).mono ?_; rintro e w' ⟨rfl, rfl⟩)
          | (go_at_call 10; refine (unhide HY).mono ?_; rintro e w2 ⟨rfl, hy⟩; have HZ := hide hy; clear hy))
        go_roundw
        case rel =>
          obtain ⟨ao', cap', hg', ho'⟩ := HZ.out
          have e : ms.take (k + 1) = ms.take k ++ [m] := by rw [List.take_succ_eq_append_getElem hlt, HM.out]
          exact ⟨k + 1, by omega, by go_num, HGO.out, by rw [e]; exact Iter.step HS.out.1 HS.out.2.1 HS.out.2.2.1 HS.out.2.2.2 HF.out hBP hg' ho'⟩
        case measure => simp [intOf]; omega
      · rw [decide_eq_false hgo] at hY
        have HY := hide hY
        clear hY
        have HGO := hide hgo
        clear hgo
        go_wp2_with (first
          | (go_at_call 21; refine (unhide H1).mono ?_; rintro e w' ⟨rfl, rfl⟩)
          | (go_at_call 10; refine (unhide HY).mono ?_; rintro e w2 ⟨rfl, hy⟩; have HZ := hide hy; clear hy))
        refine bodyPost_ret (v := .tuple #[]) (by simp [results, Yba.results23]) rfl ⟨rfl, ?_⟩
        obtain ⟨ao', cap', hg', ho'⟩ := HZ.out
        have hkk := HKS.out
        have hgg := HGO.out
        have e : want stop ms = ms.take k ++ [m] := by
          unfold want
          rw [if_neg (by omega), ← HM.out, ← List.take_succ_eq_append_getElem hlt]
          congr 1
          omega
        rw [e]
        exact Iter.step HS.out.1 HS.out.2.1 HS.out.2.2.1 HS.out.2.2.2 HF.out hBP hg' ho'
    · obtain rfl : k = ms.length := by omega
      rw [List.take_length] at hg
      have hkk := HKS.out
      have e : want stop ms = ms := by
        unfold want
        split
        · rfl
        · exact List.take_of_length_le (by omega)
      have HS := hide (show Iter w wr L F c ms BG BP (want stop ms) from by rw [e]; exact ⟨ao, cap, hg, hl, hp, hb⟩)
      clear hg hl hp hb hkk e
      go_wp2
      go_end0
      exact ⟨rfl, HS.out⟩

end Go.Proofs.Ybulkduge
