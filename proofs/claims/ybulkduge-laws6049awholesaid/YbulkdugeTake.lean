/-
  THE WALKS OF '(*messageList).at' (21) AND 'take' (9).
-/
import Derived.Test.YbulkdugeList
import Derived.Test.YbulkdugeProg
import Derived.WalkLawsBesides
import Derived.WalkSpells
import Derived.Outline
import Derived.Deep.RegionWith
namespace Go.Proofs.Ybulkduge
open Go.RowKit
set_option linter.unusedVariables false

set_option maxHeartbeats 400000 in
theorem at_core (L fst nb ga oa capb g len : Nat) (i : Int) (w : World) (hf : fst ≤ 1000000000) (hi0 : 0 ≤ i) (hi : i ≤ 1000000000) (hnb : nb ≤ 9223372036854775807) (hlen : len ≤ 4096)
    (c0 : w.cell? ⟨L, 0, none⟩ = some (.slice (some ⟨ga, oa, none⟩) nb capb)) (c1 : w.cell? ⟨L, 1, none⟩ = some (.int .i64 fst))
    (hk : (fst + i.toNat) / 4096 < nb) (hr : (fst + i.toNat) % 4096 < len) (cb : w.cell? ⟨ga, oa + (fst + i.toNat) / 4096, none⟩ = some (.slice (some ⟨g, 0, none⟩) len len)) :
    Calls Yba.prog 21 #[.pointer (some ⟨L, 0, none⟩), .int .i64 i] w fun e w' => e = .returned (.pointer (some ⟨g, (fst + i.toNat) % 4096 * 4, none⟩)) ∧ w' = w := by
  obtain ⟨k, rfl⟩ := Int.eq_ofNat_of_zero_le hi0
  rw [Int.toNat_natCast] at *
  go_enter Yba.func21, Yba.ntmps21
  go_wp2
  go_ret
  exact ⟨rfl, rfl⟩

theorem at_any {w : World} {L : Nat} {st : LSt} (h : LI w L st) (i : Int) (hi0 : 0 ≤ i) (hj : st.first + i.toNat < (places st.blks).length) (hb : st.first + i.toNat ≤ 1000000000) :
    Calls Yba.prog 21 #[.pointer (some ⟨L, 0, none⟩), .int .i64 i] w fun e w' => e = .returned (.pointer (some ⟨gAt st (st.first + i.toNat), (st.first + i.toNat) % 4096 * 4, none⟩)) ∧ w' = w := by
  obtain ⟨ga, oa, len, he, h1, h2, h3, h4⟩ := h.arrAt _ hj
  have hc0 := h.c0
  rw [he] at hc0
  have hm := h.arr.2
  refine at_core L st.first st.blks.length ga oa st.cap _ len i w (by omega) hi0 (by omega) ?_ h3 hc0 h.c1 h1 h2 h4
  have := hm.1
  have := hm.2.1
  unfold maxLen at this
  omega

def takeSt (st : LSt) (i : Nat) : LSt := { put (put st (st.first + i) (mAt st (st.first + (st.n - 1)))) (st.first + (st.n - 1)) zeroM with n := st.n - 1 }

theorem LI.len {w : World} {L : Nat} {st : LSt} (h : LI w L st) : (items st).length = st.n := by
  have := h.fits
  simp [items]
  omega

/-- The world behind take's stores. -/
def takeW (w : World) (nq L n g1 p g2 q : Nat) (m1 m2 : Msg) : World :=
  ((((((stM (stM ((w.alloc (.cells #[.int .i64 0, .int .i64 0, .int .i64 0, .nilIface] 26)).drewN nq) g1 p m2) g2 q zeroM).setCell ⟨L, 2, none⟩ (.int .i64 ((n : Int) - 1))).setCell ⟨w.heap.size, 0, none⟩ (.int .i64 m1.1)).setCell ⟨w.heap.size, 1, none⟩ (.int .i64 m1.2.1)).setCell ⟨w.heap.size, 2, none⟩ (.int .i64 m1.2.2)).setCell ⟨w.heap.size, 3, none⟩ .nilIface).alloc (.cells #[.int .i64 m1.1, .int .i64 m1.2.1, .int .i64 m1.2.2, .nilIface] 26)

set_option maxRecDepth 100000 in
set_option maxHeartbeats 1000000 in
theorem take_walk (L n : Nat) (G O : Int → Nat) (g1 p g2 q : Nat) (m1 m2 : Msg) (i : Int) (w : World) (hn : 1 ≤ n) (hn2 : n ≤ 1000000000) (hL : L < w.heap.size) (l1 : g1 < w.heap.size) (l2 : g2 < w.heap.size) (n1 : g1 ≠ L) (n2 : g2 ≠ L)
    (c2 : w.cell? ⟨L, 2, none⟩ = some (.int .i64 n)) (f2 : w.frozen? ⟨L, 2, none⟩ = false)
    (a0 : w.cell? ⟨g1, p * 4, none⟩ = some (.int .i64 m1.1)) (a1 : w.cell? ⟨g1, p * 4 + 1, none⟩ = some (.int .i64 m1.2.1)) (a2 : w.cell? ⟨g1, p * 4 + 2, none⟩ = some (.int .i64 m1.2.2)) (a3 : w.cell? ⟨g1, p * 4 + 3, none⟩ = some .nilIface)
    (b0 : w.cell? ⟨g2, q * 4, none⟩ = some (.int .i64 m2.1)) (b1 : w.cell? ⟨g2, q * 4 + 1, none⟩ = some (.int .i64 m2.2.1)) (b2 : w.cell? ⟨g2, q * 4 + 2, none⟩ = some (.int .i64 m2.2.2)) (b3 : w.cell? ⟨g2, q * 4 + 3, none⟩ = some .nilIface)
    (z1 : ∀ j, w.frozen? ⟨g1, j, none⟩ = false) (z2 : ∀ j, w.frozen? ⟨g2, j, none⟩ = false)
    (hsep : (g1 = g2 ∧ p = q ∧ m1 = m2) ∨ g1 ≠ g2 ∨ (g1 = g2 ∧ p < q))
    (hG1 : G i = g1) (hO1 : O i = p) (hG2 : G ((n : Int) - 1) = g2) (hO2 : O ((n : Int) - 1) = q)
    (hat : ∀ k nq, (k = i ∨ k = (n : Int) - 1) → Calls Yba.prog 21 #[.pointer (some ⟨L, 0, none⟩), .int .i64 k] ((w.alloc (.cells #[.int .i64 0, .int .i64 0, .int .i64 0, .nilIface] 26)).drewN nq) fun e w' => e = .returned (.pointer (some ⟨G k, O k * 4, none⟩)) ∧ w' = (w.alloc (.cells #[.int .i64 0, .int .i64 0, .int .i64 0, .nilIface] 26)).drewN nq)
    (K : World → Prop) (hK : ∀ nq, K (takeW w nq L n g1 p g2 q m1 m2)) :
    Calls Yba.prog 9 #[.pointer (some ⟨L, 0, none⟩), .int .i64 i] w fun e w' => (∃ v, e = .returned v) ∧ K w' := by
  have H1 := hide hat
  have HK := hide hK
  clear hat hK
  rcases hsep with ⟨rfl, rfl, rfl⟩ | hne | ⟨rfl, hlt⟩
  rotate_left
  have hne' : g2 ≠ g1 := fun e => hne e.symm
  all_goals
    have n1' : L ≠ g1 := fun e => n1 e.symm
    go_enter Yba.func9, Yba.ntmps9
    go_wp2_with fail
    go_quiet ((go_at_call 21; exact Calls.quiet_of_same (unhide H1 _ _ (by first | exact .inl rfl | exact .inr rfl))))
    go_wp2
    refine bodyPost_ret (v := .agg #[.int .i64 m1.1, .int .i64 m1.2.1, .int .i64 m1.2.2, .nilIface]) (by simp [results, Yba.results9, go_sem]) rfl ⟨⟨_, rfl⟩, ?_⟩
    exact unhide HK nq

/-- Two places: one, in two blocks, or two in one block. -/
theorem LI.two {w : World} {L : Nat} {st : LSt} (h : LI w L st) (j k : Nat) (hjk : j ≤ k) (hk : k < (places st.blks).length) :
    (gAt st j = gAt st k ∧ j % 4096 = k % 4096 ∧ mAt st j = mAt st k) ∨ gAt st j ≠ gAt st k ∨ (gAt st j = gAt st k ∧ j % 4096 < k % 4096) := by
  by_cases h0 : j = k
  · subst h0; exact .inl ⟨rfl, rfl, rfl⟩
  · by_cases h1 : j / 4096 = k / 4096
    · refine .inr (.inr ⟨by simp [gAt, h1], by omega⟩)
    · refine .inr (.inl fun he => h1 ?_)
      obtain ⟨b, b1, b2, b3, _⟩ := h.pos j (by omega)
      obtain ⟨c, c1, c2, c3, _⟩ := h.pos k hk
      have hnd := h.nodup
      unfold rowsOf at hnd
      have hnd1 := (List.nodup_append.1 hnd).1
      have e1 : (st.blks.map Prod.fst)[j / 4096]? = some b.1 := by rw [List.getElem?_map, b1]; rfl
      have e2 : (st.blks.map Prod.fst)[k / 4096]? = some b.1 := by rw [List.getElem?_map, c1, b3, he, ← c3]; rfl
      exact (List.getElem?_inj (List.getElem?_eq_some_iff.1 e1).1 hnd1).1 (e1.trans e2.symm)

theorem LI.takeW {w : World} {L : Nat} {st : LSt} (h : LI w L st) (i : Nat) (hi : i < st.n) (nq : Nat) (m1 : Msg) :
    LI (Ybulkduge.takeW w nq L st.n (gAt st (st.first + i)) ((st.first + i) % 4096) (gAt st (st.first + (st.n - 1))) ((st.first + (st.n - 1)) % 4096) m1 (mAt st (st.first + (st.n - 1)))) L (takeSt st i) ∧
    Outside (foot L st) w (Ybulkduge.takeW w nq L st.n (gAt st (st.first + i)) ((st.first + i) % 4096) (gAt st (st.first + (st.n - 1))) ((st.first + (st.n - 1)) % 4096) m1 (mAt st (st.first + (st.n - 1)))) := by
  have hfit := h.fits
  have hj1 : st.first + i < (places st.blks).length := by omega
  have hj2 : st.first + (st.n - 1) < (places st.blks).length := by omega
  have en : ((st.n - 1 : Nat) : Int) = (st.n : Int) - 1 := by omega
  have hnew : ∀ s, foot L s = foot L st → w.heap.size ∉ foot L s := fun s hs hm => by rw [hs] at hm; have := h.foot_lt _ hm; omega
  have m1' := h.gAt_mem _ hj1
  have m2' := h.gAt_mem _ hj2
  unfold Ybulkduge.takeW
  refine ⟨?_, ?_⟩
  · have h1 := (h.alloc (.cells #[.int .i64 0, .int .i64 0, .int .i64 0, .nilIface] 26)).drewN nq
    have h2 := h1.store _ hj1 (mAt st (st.first + (st.n - 1)))
    have hp := h1.places_put _ hj1 (mAt st (st.first + (st.n - 1)))
    have h3 := h2.store (st.first + (st.n - 1)) (by rw [hp, List.length_set]; exact hj2) zeroM
    have hp3 := h2.places_put (st.first + (st.n - 1)) (by rw [hp, List.length_set]; exact hj2) zeroM
    rw [gAt_put] at h3
    have h4 := h3.setN (st.n - 1) (by rw [hp3, List.length_set, hp, List.length_set]; show st.first + (st.n - 1) ≤ _; omega)
    rw [en] at h4
    have hf : foot L (takeSt st i) = foot L st := by
      show foot L (put (put st _ _) _ _) = _
      rw [foot_put, foot_put]
    exact ((((h4.other _ 0 (hnew _ hf) _).other _ 1 (hnew _ hf) _).other _ 2 (hnew _ hf) _).other _ 3 (hnew _ hf) _).alloc _
  · exact ((((((((((Outside.refl (foot L st) w).alloc _).drewN nq).stM _ _ (.inl m1') _).stM _ _ (.inl m2') _).setCell L 2 (.inl mem_foot_L) _).setCell _ 0 (.inr (Nat.le_refl _)) _).setCell _ 1 (.inr (Nat.le_refl _)) _).setCell _ 2 (.inr (Nat.le_refl _)) _).setCell _ 3 (.inr (Nat.le_refl _)) _).alloc _

theorem take_any {w : World} {L : Nat} {st : LSt} (h : LI w L st) (i : Nat) (hi : i < st.n) (hb : st.first + st.n ≤ 1000000000) :
    Calls Yba.prog 9 #[.pointer (some ⟨L, 0, none⟩), .int .i64 i] w fun e w' => (∃ v, e = .returned v) ∧ LI w' L (takeSt st i) ∧ Outside (foot L st) w w' := by
  have hfit := h.fits
  have hj1 : st.first + i < (places st.blks).length := by omega
  have hj2 : st.first + (st.n - 1) < (places st.blks).length := by omega
  obtain ⟨a0, a1, a2, a3⟩ := h.cells _ hj1
  obtain ⟨b0, b1, b2, b3⟩ := h.cells _ hj2
  have en : ((st.n : Int) - 1).toNat = st.n - 1 := by omega
  refine take_walk L st.n (fun k => gAt st (st.first + k.toNat)) (fun k => (st.first + k.toNat) % 4096) (gAt st (st.first + i)) ((st.first + i) % 4096) (gAt st (st.first + (st.n - 1))) ((st.first + (st.n - 1)) % 4096) _ _ i w (by omega) (by omega) h.ltL
    (h.foot_lt _ (h.gAt_mem _ hj1)) (h.foot_lt _ (h.gAt_mem _ hj2)) (h.gAt_ne _ hj1) (h.gAt_ne _ hj2) h.c2 (h.fz 2) a0 a1 a2 a3 b0 b1 b2 b3 (h.fzAt _ hj1) (h.fzAt _ hj2) (h.two _ _ (by omega) hj2) (by simp) (by simp) (by simp only [en]) (by simp only [en]) ?_ _ (fun nq => h.takeW i hi nq _)
  intro k nq hk
  have hk' : 0 ≤ k ∧ k.toNat < st.n := by rcases hk with rfl | rfl <;> omega
  exact at_any ((h.alloc _).drewN nq) k hk'.1 (by omega) (by omega)

/-- What take does to the list's items. -/
theorem items_take {w : World} {L : Nat} {st : LSt} (h : LI w L st) (i : Nat) (hi : i < st.n) (hl : st.n - 1 < (items st).length) : items (takeSt st i) = ((items st).set i ((items st)[st.n - 1])).take (st.n - 1) := by
  have hfit := h.fits
  have hj1 : st.first + i < (places st.blks).length := by omega
  have hj2 : st.first + (st.n - 1) < (places st.blks).length := by omega
  have hp := h.places_put _ hj1 (mAt st (st.first + (st.n - 1)))
  have h2 := h.store _ hj1 (mAt st (st.first + (st.n - 1)))
  have hp3 := h2.places_put (st.first + (st.n - 1)) (by rw [hp, List.length_set]; exact hj2) zeroM
  have em : (items st)[st.n - 1] = mAt st (st.first + (st.n - 1)) := by
    simp [items, mAt, hj2]
  show ((places (put (put st _ _) _ _).blks).drop st.first).take (st.n - 1) = _
  rw [hp3, hp, em]
  apply List.ext_getElem?
  intro k
  simp only [items, List.getElem?_take, List.getElem?_drop, List.getElem?_set, List.length_set, List.length_take, List.length_drop]
  by_cases hk : k < st.n - 1
  · have e1 : ¬ st.first + (st.n - 1) = st.first + k := by omega
    have e2 : (st.first + i = st.first + k) ↔ i = k := by omega
    have e3 : k < st.n := by omega
    simp only [hk, if_true, e1, if_false, e2, e3]
    by_cases hik : i = k
    · subst hik
      simp [hj1]
      omega
    · simp [hik]
  · simp [hk]

end Go.Proofs.Ybulkduge
