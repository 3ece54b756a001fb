/-
  THE WALKS OF 'served' (22) AND 'served$1' (39) (law C): which waiters are handed over, and how many.
-/
import Derived.Test.YbulkdukmWalk40
namespace Go.Proofs.Ybulkdukm
open Go.RowKit
set_option linter.unusedVariables false

/-- How many are to come. -/
def wantOf (n limit : Nat) : Nat := if limit = n + 1 then n else min (max limit 1) n

theorem want_is {n limit t : Nat} {r : Bool} (ht : t ≤ n) (hl : limit ≤ n + 1) (hm : ∀ s, 1 ≤ s → s < t → more n limit s = true)
    (hr : (r = true ∧ t = n ∧ (1 ≤ t → more n limit t = true)) ∨ (r = false ∧ 1 ≤ t ∧ more n limit t = false)) : t = wantOf n limit := by
  unfold wantOf
  unfold more at hm hr
  rcases hr with ⟨_, h1, h2⟩ | ⟨_, h1, h2⟩
  · split
    · exact h1
    · rename_i hne
      by_cases h0 : 1 ≤ t
      · have := h2 h0
        simp at this
        omega
      · omega
  · simp at h2
    have hne := h2.1
    rw [if_neg hne]
    by_cases h0 : t = 1
    · omega
    · have := hm (t - 1) (by omega) (by omega)
      simp at this
      omega

theorem idx_both (p q : Nat → Bool) (h : ∀ i, q i = !p i) (n : Nat) : (idx p 0 n).length + (idx q 0 n).length = n := by
  induction n with
  | zero => simp [idx]
  | succ n ih =>
    rw [idx_snoc, idx_snoc, h n]
    cases p n <;> simp <;> omega

/-- In the first group. -/
def g1 (key : Nat → Nat) (j : Nat) : Bool := decide (key j < 9)
def g2 (key : Nat → Nat) (j : Nat) : Bool := decide (9 ≤ key j)
/-- The order in which all are served. -/
def allOf (key : Nat → Nat) (n : Nat) : List Nat := idx (g1 key) 0 n ++ idx (g2 key) 0 n
theorem allOf_len (key : Nat → Nat) (n : Nat) : (allOf key n).length = n := by
  unfold allOf
  rw [List.length_append]
  refine idx_both _ _ (fun i => ?_) n
  unfold g1 g2
  by_cases h : key i < 9
  · have : ¬ 9 ≤ key i := by omega
    simp [h, this]
  · have : 9 ≤ key i := by omega
    simp [h, this]

/-- What is left behind 'served'. -/
def Served (w0 w : World) (GB n : Nat) (blk : Nat → Nat) (key : Nat → Nat) (limit : Nat) : Prop :=
  ∃ ao cap, LV w GB ao cap (((allOf key n).take (wantOf n limit)).map blk) ∧ Turn [GB] w0 w none 0 ao cap

theorem served_first {w0 w : World} {GB n : Nat} {blk key : Nat → Nat} {limit : Nat} (hl : limit ≤ n + 1) (h : Ended w0 w GB n blk (g1 key) limit [] none 0 false) : Served w0 w GB n blk key limit := by
  obtain ⟨t, ao, cap, h1, h2, h3, h4, h5⟩ := h
  have hb := allOf_len key n
  unfold allOf at hb
  rw [List.length_append] at hb
  refine ⟨ao, cap, ?_, h3⟩
  have e : t = wantOf n limit := want_is (r := false) (by omega) hl (fun s a b => by simpa using h4 s a b) (by
    rcases h5 with ⟨a, _⟩ | ⟨_, a, b⟩
    · cases a
    · exact .inr ⟨rfl, a, by simpa using b⟩)
  rw [← e]
  unfold allOf
  rw [List.take_append_of_le_length h1]
  simpa using h2

theorem ended_true {w0 w : World} {GB n : Nat} {blk key : Nat → Nat} {limit : Nat} (h : Ended w0 w GB n blk (g1 key) limit [] none 0 true) :
    ∃ ao1 cap1, Turn [GB] w0 w none 0 ao1 cap1 ∧ LV w GB ao1 cap1 ((idx (g1 key) 0 n).map blk) ∧ ∀ s, 1 ≤ s → s ≤ (idx (g1 key) 0 n).length → more n limit s = true := by
  obtain ⟨t, ao, cap, h1, h2, h3, h4, h5⟩ := h
  rcases h5 with ⟨_, rfl, c⟩ | ⟨a, _⟩
  · refine ⟨ao, cap, h3, by simpa using h2, fun s a b => ?_⟩
    by_cases hs : s < (idx (g1 key) 0 n).length
    · simpa using h4 s a hs
    · obtain rfl : s = (idx (g1 key) 0 n).length := by omega
      simpa using c a
  · cases a

theorem served_second {w0 w1 w : World} {GB n : Nat} {blk key : Nat → Nat} {limit : Nat} {r : Bool} {ao1 : Option Addr} {cap1 : Nat} (hl : limit ≤ n + 1)
    (hm : ∀ s, 1 ≤ s → s ≤ (idx (g1 key) 0 n).length → more n limit s = true) (ht : Turn [GB] w0 w1 none 0 ao1 cap1)
    (h : Ended w1 w GB n blk (g2 key) limit ((idx (g1 key) 0 n).map blk) ao1 cap1 r) : Served w0 w GB n blk key limit := by
  obtain ⟨t, ao, cap, h1, h2, h3, h4, h5⟩ := h
  have hb := allOf_len key n
  unfold allOf at hb
  rw [List.length_append] at hb
  rw [List.length_map] at h4 h5
  refine ⟨ao, cap, ?_, ht.trans h3⟩
  have e : (idx (g1 key) 0 n).length + t = wantOf n limit := want_is (r := r) (by omega) hl (fun s a b => by
      by_cases hs : s ≤ (idx (g1 key) 0 n).length
      · exact hm s a hs
      · have := h4 (s - (idx (g1 key) 0 n).length) (by omega) (by omega)
        rwa [show (idx (g1 key) 0 n).length + (s - (idx (g1 key) 0 n).length) = s by omega] at this) (by
    rcases h5 with ⟨a, b, c⟩ | ⟨a, b, c⟩
    · refine .inl ⟨a, by omega, fun hh => ?_⟩
      by_cases h0 : 1 ≤ t
      · exact c h0
      · have h0' : t = 0 := by omega
        subst h0'
        exact hm _ hh (Nat.le_refl _)
    · exact .inr ⟨a, by omega, c⟩)
  rw [← e]
  unfold allOf
  rw [List.take_append, List.take_of_length_le (by omega), Nat.add_sub_cancel_left, List.map_append]
  exact h2

theorem run_conv (Q : Nat) (W : World) : (Instr.sliceAt 49 (.pointer (some ⟨Q, 0, none⟩)) none none none).run Yba.prog W = .ok (.slice (some ⟨Q, 0, none⟩) 9 9) W := by
  have ea : (⟨Q, 0, none⟩ : Addr).add 0 = ⟨Q, 0, none⟩ := by simp [Addr.add]
  simp [Instr.sliceAt, run_underlying Yba.underlying49, Instr.sureAddr, Instr.sliceBounds, ea, Yba.sizeOf48]
theorem run_arr (Q : Nat) (W : World) : (Instr.sliceAt 50 (.pointer (some ⟨Q, 18, none⟩)) none none none).run Yba.prog W = .ok (.slice (some ⟨Q, 18, none⟩) 6 6) W := by
  have ea : (⟨Q, 18, none⟩ : Addr).add 0 = ⟨Q, 18, none⟩ := by simp [Addr.add]
  simp [Instr.sliceAt, run_underlying Yba.underlying50, Instr.sureAddr, Instr.sliceBounds, ea, Yba.sizeOf48]

theorem served_mk (Q : Nat) (w : World) : Calls Yba.prog 22 #[.pointer (some ⟨Q, 0, none⟩)] w fun e w' => e = .returned (.func (.func 39) #[] #[.pointer (some ⟨w.heap.size, 0, none⟩)]) ∧ w' = w.alloc (.cells #[.pointer (some ⟨Q, 0, none⟩)] 45) := by
  go_enter Yba.func22, Yba.ntmps22
  go_wp2
  go_ret
  exact ⟨rfl, rfl⟩

theorem hap1 (key : Nat → Nat) : ∀ c c' i, (key i == c) = true → (key i == c') = true → c = c' := by
  intro c c' i h1 h2
  rw [beq_iff_eq] at h1 h2
  omega
theorem hap2 (key : Nat → Nat) : ∀ c c' i, (key i == 9 + c) = true → (key i == 9 + c') = true → c = c' := by
  intro c c' i h1 h2
  rw [beq_iff_eq] at h1 h2
  omega
theorem hg1 (key : Nat → Nat) : ∀ i, g1 key i = true ↔ ∃ c, c < 9 ∧ (key i == c) = true := by
  intro i
  unfold g1
  rw [decide_eq_true_iff]
  exact ⟨fun h => ⟨key i, h, by simp⟩, fun ⟨c, h1, h2⟩ => by rw [beq_iff_eq] at h2; omega⟩
theorem hg2 (key : Nat → Nat) (hk : ∀ i, key i < 15) : ∀ i, g2 key i = true ↔ ∃ c, c < 6 ∧ (key i == 9 + c) = true := by
  intro i
  unfold g2
  rw [decide_eq_true_iff]
  exact ⟨fun h => ⟨key i - 9, by have := hk i; omega, by rw [beq_iff_eq]; omega⟩, fun ⟨c, h1, h2⟩ => by rw [beq_iff_eq] at h2; omega⟩

set_option maxRecDepth 100000 in
set_option maxHeartbeats 4000000 in
theorem served_any (Q QB n GB LB NB limit : Nat) (blk key : Nat → Nat) (w : World) (hq : w.heap[QB]? = some (.cells #[.pointer (some ⟨Q, 0, none⟩)] 45 (0, 0)))
    (h1 : Grp w Q 0 9 n blk (fun c j => key j == c)) (h2 : Grp w Q 18 6 n blk (fun c j => key j == 9 + c)) (hk : ∀ i, key i < 15) (hn : n ≤ 65536) (hl : limit ≤ n + 1)
    (hlv : LV w GB none 0 []) (hlb : w.heap[LB]? = some (.cells #[.int .i64 (limit : Int)] 3 (0, 0))) (hnb : w.heap[NB]? = some (.cells #[.int .i64 (n : Int)] 3 (0, 0))) (hQ : Q < GB) (hB : ∀ j, j < n → blk j < GB) :
    Calls Yba.prog 39 #[.func (.func 21) #[] #[.pointer (some ⟨GB, 0, none⟩), .pointer (some ⟨LB, 0, none⟩), .pointer (some ⟨NB, 0, none⟩)], .pointer (some ⟨QB, 0, none⟩)] w fun e w' => e = .returned (.tuple #[]) ∧ Served w w' GB n blk key limit := by
  have hGB := lt_of_block hlv.1
  have cq : w.cell? ⟨QB, 0, none⟩ = some (.pointer (some ⟨Q, 0, none⟩)) := by rw [cell_of_row w QB 0 _ 45 (0, 0) hq]; rfl
  have hQG : QB ≠ GB := by rintro rfl; have := hlv.1; rw [hq] at this; simp at this
  have hLG : LB ≠ GB := by rintro rfl; have := hlv.1; rw [hlb] at this; simp at this
  have hNG : NB ≠ GB := by rintro rfl; have := hlv.1; rw [hnb] at this; simp at this
  have HY := hide (order_any Q 0 9 n GB LB NB limit blk _ (g1 key) [] none 0 w h1 (by omega) hn (by omega) (by simp) (hg1 key) (hap1 key) hlv hlb hnb hQ hB (by simp [ownB]))
  have HY2 : Hid (∀ w1 ao1 cap1, Turn [GB] w w1 none 0 ao1 cap1 → LV w1 GB ao1 cap1 ((idx (g1 key) 0 n).map blk) → Calls Yba.prog 40 #[.slice (some ⟨Q, 18, none⟩) 6 6, .func (.func 21) #[] #[.pointer (some ⟨GB, 0, none⟩), .pointer (some ⟨LB, 0, none⟩), .pointer (some ⟨NB, 0, none⟩)]] w1 fun e w' => ∃ r, e = .returned (.bool r) ∧ Ended w1 w' GB n blk (g2 key) limit ((idx (g1 key) 0 n).map blk) ao1 cap1 r) := by
    intro w1 ao1 cap1 ht hlv1
    have ho : Outside [GB] w w1 := ht.out.mono (by simp [ownB])
    have hbel : Below GB w w1 := ho.below (Below.refl GB w) (by omega) (by simp)
    refine order_any Q 18 6 n GB LB NB limit blk _ (g2 key) _ ao1 cap1 w1 (h2.below hbel hQ hB) (by omega) hn (by omega) ?_ (hg2 key hk) (hap2 key) hlv1 (ho.obj hlb (by simpa using hLG)) (ho.obj hnb (by simpa using hNG)) hQ hB ?_
    · rw [List.length_map]
      have := idx_len (g1 key) 0 n
      omega
    · intro g hg
      rcases ht.own g hg with h | h
      · simp [ownB] at h
      · omega
  have HCQ : Hid (∀ w1 r, Ended w w1 GB n blk (g1 key) limit [] none 0 r → w1.cell? ⟨QB, 0, none⟩ = some (.pointer (some ⟨Q, 0, none⟩))) := by
    rintro w1 r ⟨t, ao1, cap1, z1, z2, z3, _⟩
    exact z3.out.cell cq (by simpa [ownB] using hQG)
  have hs1 := run_conv Q
  have hs2 := run_arr Q
  clear hq h1 h2 hlv hlb hnb hB
  have tok : True := trivial
  go_enter Yba.func39, Yba.ntmps39
  go_wp2_with (first
    | (go_at_call 40; have _t := tok; go_must (refine (unhide HY).mono ?_; rintro e w1 ⟨r, rfl, hz⟩; have HZ := hide hz; have cq1 := HCQ.out w1 r hz; clear hz tok _t))
    | (go_at_call 40; go_must (have hr : r = true := (by assumption); obtain ⟨ao1, cap1, HF⟩ : ∃ ao1 cap1, Hid (Turn [GB] w w1 none 0 ao1 cap1 ∧ LV w1 GB ao1 cap1 ((idx (g1 key) 0 n).map blk) ∧ ∀ s, 1 ≤ s → s ≤ (idx (g1 key) 0 n).length → more n limit s = true) := ended_true (by rw [← hr]; exact HZ.out); refine (HY2.out w1 _ _ HF.out.1 HF.out.2.1).mono ?_; rintro e w2 ⟨r2, rfl, hz⟩; have HZ2 := hide hz; clear hz)))
  · go_end0
    exact ⟨rfl, served_second hl HF.out.2.2 HF.out.1 HZ2.out⟩
  · rename_i hr
    have hr' : r = false := by cases r <;> simp_all
    go_end0
    exact ⟨rfl, served_first hl (by rw [← hr']; exact HZ.out)⟩

end Go.Proofs.Ybulkdukm
