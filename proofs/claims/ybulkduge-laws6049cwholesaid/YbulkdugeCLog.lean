/-
  THE REPORTS IN MEMORY (law C); THE WALKS OF THE LAW's CLOSURE 'LawS6049CWhole$1' (16), OF 'tenth' (30) AND OF '(*checkedTally).report' (31).
-/
import Derived.Test.YbulkdugeCMap
import Derived.WalkLawsBesides
import Derived.WalkSpells
import Derived.Outline
import Derived.Deep.RegionWith
namespace Go.Proofs.Ybulkduge
open Go.RowKit
set_option linter.unusedVariables false

def zeroP : Array Value := #[.int .i64 0, .int .i64 0, .bool false, .int .u64 0, .bool false]
theorem Yba.info54 : (Yba.prog.info? 54).map (fun i => (i.zero, i.size, i.bytes)) = some (some (.agg zeroP), 5, 40) := by kernel_rfl

def pc (R : Nat) (p : Pg) : List Value := [.int .i64 (R : Int), .int .i64 (p.c : Int), .bool p.f, .int .u64 (p.s : Int), .bool false]
def flatP (R : Nat) (ps : List Pg) : List Value := ps.flatMap (pc R)
theorem flatP_snoc (R : Nat) (ps : List Pg) (p : Pg) : flatP R ps ++ pc R p = flatP R (ps ++ [p]) := by simp [flatP]
theorem flatP_length (R : Nat) (ps : List Pg) : (flatP R ps).length = ps.length * 5 := by
  induction ps with
  | nil => rfl
  | cons p r ih =>
    simp only [flatP, List.flatMap_cons, List.length_append] at ih ⊢
    rw [ih]
    simp [pc]
    omega
theorem pc_one (R : Nat) (p : Pg) : ∀ u ∈ pc R p, u.oneCell' = true := by
  intro u hu
  simp only [pc, List.mem_cons, List.not_mem_nil, or_false] at hu
  rcases hu with rfl | rfl | rfl | rfl | rfl <;> rfl
theorem flatP_get (R : Nat) (ps : List Pg) (i : Nat) (hi : i < ps.length) (j : Nat) (hj : j < 5) : (flatP R ps)[i * 5 + j]? = (pc R ps[i])[j]? := by
  induction ps generalizing i with
  | nil => simp at hi
  | cons p r ih =>
    simp only [flatP, List.flatMap_cons] at ih ⊢
    cases i with
    | zero =>
      rw [List.getElem?_append_left (by simp [pc]; omega)]
      simp
    | succ i =>
      rw [List.getElem?_append_right (by simp [pc]; omega)]
      have e : (i + 1) * 5 + j - (pc R p).length = i * 5 + j := by simp [pc]; omega
      rw [e]
      simpa using ih i (by simpa using hi)

/-- The world has turned in the blocks of S and in what the slice (ao, cap) owns; what (ao', cap') owns it owned before, or it is new. -/
structure Turn (S : List Nat) (w w' : World) (ao : Option Addr) (cap : Nat) (ao' : Option Addr) (cap' : Nat) : Prop where
  out : Outside (S ++ ownB ao cap) w w'
  own : ∀ g ∈ ownB ao' cap', g ∈ ownB ao cap ∨ w.heap.size ≤ g

theorem Turn.refl (S : List Nat) (w : World) (ao : Option Addr) (cap : Nat) : Turn S w w ao cap ao cap := ⟨Outside.refl _ _, fun g h => .inl h⟩
theorem Turn.of_out {S : List Nat} {w w' : World} (h : Outside S w w') (ao : Option Addr) (cap : Nat) : Turn S w w' ao cap ao cap := ⟨h.mono (by intro x hx; simp [hx]), fun g h => .inl h⟩
theorem Turn.trans {S : List Nat} {w w1 w2 : World} {a a1 a2 : Option Addr} {c c1 c2 : Nat} (h : Turn S w w1 a c a1 c1) (k : Turn S w1 w2 a1 c1 a2 c2) : Turn S w w2 a c a2 c2 := by
  have hz := h.out.size
  refine ⟨h.out.then k.out (fun x hx => ?_), fun g hg => ?_⟩
  · rcases List.mem_append.1 hx with h1 | h1
    · exact .inl (List.mem_append.2 (.inl h1))
    · rcases h.own x h1 with h2 | h2
      · exact .inl (List.mem_append.2 (.inr h2))
      · exact .inr h2
  · rcases k.own g hg with h1 | h1
    · exact h.own g h1
    · exact .inr (by omega)
theorem Turn.mono {S T : List Nat} {w w' : World} {a a' : Option Addr} {c c' : Nat} (h : Turn S w w' a c a' c') (hT : ∀ x ∈ S, x ∈ T) : Turn T w w' a c a' c' :=
  ⟨h.out.mono (fun x hx => by rcases List.mem_append.1 hx with h1 | h1; exact List.mem_append.2 (.inl (hT x h1)); exact List.mem_append.2 (.inr h1)), h.own⟩

/-- The variable at block LG holds the slice (ao, cap) of the reports ps. -/
def LV (w : World) (LG R : Nat) (ao : Option Addr) (cap : Nat) (ps : List Pg) : Prop :=
  w.heap[LG]? = some (.cells #[.slice ao ps.length cap] 50 (0, 0)) ∧ Slc w 54 5 ao ps.length cap (flatP R ps)

theorem Slc.not_own' {w : World} {e e' : TypeId} {size : Nat} {ao : Option Addr} {n cap : Nat} {xs : List Value} (h : Slc w e size ao n cap xs) {b : Nat} {cs : Array Value} (hb : w.heap[b]? = some (.cells cs e' (0, 0))) (hne : e ≠ e') : b ∉ ownB ao cap := by
  intro hm
  have h0 : cap ≠ 0 := by intro h0; simp [ownB, h0] at hm
  obtain ⟨g, off, cur, he, hh, _⟩ := h.at_ (by omega)
  simp only [ownB, h0, if_false, he] at hm
  simp at hm
  subst hm
  rw [hh] at hb
  simp at hb
  exact hne hb.2
theorem LV.tag {w : World} {LG R : Nat} {ao : Option Addr} {cap : Nat} {ps : List Pg} (h : LV w LG R ao cap ps) : LG ∉ ownB ao cap := h.2.not_own' h.1 (by decide)
theorem LV.of_block {w w' : World} {LG R : Nat} {ao : Option Addr} {cap : Nat} {ps : List Pg} (h : LV w LG R ao cap ps) (hb : ∀ k, (k = LG ∨ k ∈ ownB ao cap) → w'.heap[k]? = w.heap[k]?) : LV w' LG R ao cap ps :=
  ⟨by rw [hb LG (.inl rfl)]; exact h.1, h.2.of_block fun g hg => hb g (.inr hg)⟩
theorem LV.lt {w : World} {LG R : Nat} {ao : Option Addr} {cap : Nat} {ps : List Pg} (h : LV w LG R ao cap ps) : ∀ k, (k = LG ∨ k ∈ ownB ao cap) → k < w.heap.size := by
  rintro k (rfl | hk)
  · exact lt_of_block h.1
  · exact h.2.lt k hk
theorem LV.outside {S : List Nat} {w w' : World} {LG R : Nat} {ao : Option Addr} {cap : Nat} {ps : List Pg} (h : LV w LG R ao cap ps) (ho : Outside S w w') (h1 : LG ∉ S) (h2 : ∀ g ∈ ownB ao cap, g ∉ S) : LV w' LG R ao cap ps :=
  h.of_block fun k hk => ho.block k (h.lt k hk) (by rcases hk with rfl | hk; exact h1; exact h2 k hk)

theorem pc_news {W : World} (R : Nat) (p : Pg) (B : Nat) (hB : B = W.heap.size) : ∀ j u, (pc R p)[j]? = some u → (W.alloc (.cells #[.int .i64 (R : Int), .int .i64 (p.c : Int), .bool p.f, .int .u64 (p.s : Int), .bool false] 54)).cell? ((⟨B, 0, none⟩ : Addr).add j) = some u := by
  subst hB
  intro j u hu
  have ea : (⟨W.heap.size, 0, none⟩ : Addr).add j = ⟨W.heap.size, j, none⟩ := by unfold Addr.add; split <;> simp_all
  rw [ea, cell_of_row _ _ _ _ 54 (0, 0) (heap_alloc_new W _)]
  simpa [pc] using hu
theorem slc_two' {w : World} {e : TypeId} {size : Nat} {ao : Option Addr} {n cap : Nat} {xs : List Value} (h : Slc w e size ao n cap xs) (o o' : Obj) : Slc ((w.alloc o).alloc o') e size ao n cap xs :=
  h.outside (S := []) (((Outside.refl [] w).alloc o).alloc o') (by simp)
theorem cell_eq' {w w2 : World} {b i : Nat} (h : w2.heap[b]? = w.heap[b]?) : w2.cell? ⟨b, i, none⟩ = w.cell? ⟨b, i, none⟩ := World.cell?_of_block (w := w) h
theorem fz_eq' {w w2 : World} {b i : Nat} (h : w2.heap[b]? = w.heap[b]?) : w2.frozen? ⟨b, i, none⟩ = w.frozen? ⟨b, i, none⟩ := World.frozen?_of_block (w := w) h

theorem lv_next {w w2 : World} {LG R : Nat} {ao ao' : Option Addr} {cap cap' : Nat} {ps : List Pg} {p : Pg} (h : LV w LG R ao cap ps) (o o' : Obj) (hs : Slc w2 54 5 ao' (ps.length + 1) cap' (flatP R ps ++ pc R p)) (ho : Outside (ownB ao cap) ((w.alloc o).alloc o') w2) (how : ∀ g ∈ ownB ao' cap', g ∈ ownB ao cap ∨ ((w.alloc o).alloc o').heap.size ≤ g) :
    (w2.heap[LG]? = w.heap[LG]?) ∧ LV (w2.setCell ⟨LG, 0, none⟩ (.slice ao' (ps.length + 1) cap')) LG R ao' cap' (ps ++ [p]) ∧ Turn [LG] w (w2.setCell ⟨LG, 0, none⟩ (.slice ao' (ps.length + 1) cap')) ao cap ao' cap' := by
  have hlt : LG < w.heap.size := lt_of_block h.1
  have hO : Outside (ownB ao cap) w w2 := (((Outside.refl _ w).alloc o).alloc o').trans ho
  have hB : w2.heap[LG]? = w.heap[LG]? := hO.block LG hlt h.tag
  have hown : ∀ g ∈ ownB ao' cap', g ∈ ownB ao cap ∨ w.heap.size ≤ g := fun g hg => by
    rcases how g hg with h1 | h1
    · exact .inl h1
    · simp at h1; exact .inr (by omega)
  have hne : LG ∉ ownB ao' cap' := fun hm => by
    rcases hown LG hm with h1 | h1
    · exact h.tag h1
    · omega
  refine ⟨hB, ⟨?_, ?_⟩, ⟨?_, hown⟩⟩
  · rw [heap_setCell_same w2 LG 0 _ 50 _ (hB.trans h.1)]
    simp
  · rw [flatP_snoc] at hs
    have := hs.outside (w' := w2.setCell ⟨LG, 0, none⟩ (.slice ao' (ps.length + 1) cap')) (S := [LG]) ((Outside.refl _ w2).setCell LG 0 (.inl (by simp)) _) (fun g hg => by simp; rintro rfl; exact hne hg)
    simpa using this
  · exact (hO.mono (by intro x hx; simp [hx])).setCell LG 0 (.inl (by simp)) _

set_option maxRecDepth 100000 in
set_option maxHeartbeats 1000000 in
theorem log_one (LG R : Nat) (ao : Option Addr) (cap : Nat) (ps : List Pg) (p : Pg) (w : World) (h : LV w LG R ao cap ps) (hn : ps.length ≤ 100000) :
    Calls Yba.prog 16 #[.agg #[.int .i64 (R : Int), .int .i64 (p.c : Int), .bool p.f, .int .u64 (p.s : Int), .bool false], .pointer (some ⟨LG, 0, none⟩)] w fun e w' => e = .returned (.tuple #[]) ∧ ∃ ao' cap', LV w' LG R ao' cap' (ps ++ [p]) ∧ Turn [LG] w w' ao cap ao' cap' := by
  obtain ⟨i54, hi54, hz0, hz1, hz2⟩ := info_parts Yba.info54
  have HG := hide h
  have c0 : w.cell? ⟨LG, 0, none⟩ = some (.slice ao ps.length cap) := by rw [cell_of_row w LG 0 _ 50 (0, 0) h.1]; rfl
  have f0 : w.frozen? ⟨LG, 0, none⟩ = false := frozen_of_row w LG 0 _ 50 h.1
  have hlt : LG < w.heap.size := lt_of_block h.1
  have HS := hide h.2
  clear h
  go_enter Yba.func16, Yba.ntmps16
  have tok : True := trivial
  go_wp2_with (at_builtin; have _t := tok; refine wpList_append_cut _ rfl (.tmp 3) (.tmp 5) 50 rfl 54 i54 (.agg zeroP) 5 40 Yba.underlying50 hi54 hz0 hz1 hz2 rfl (by decide) ao ps.length cap (flatP R ps) rfl (slc_two' HS.out _ _) ⟨w.heap.size + 1, 0, none⟩ 1 1 (pc R p) rfl rfl (pc_news R p _ (by simp)) (pc_one R p) (by decide) (by unfold maxLen; omega) (by omega) ?_; intro ao' cap' w2 hs2 ho2 how2; have HN := lv_next HG.out _ _ hs2 ho2 how2; have c2 := (cell_eq' (i := 0) HN.1).trans c0; have f2 := (fz_eq' (i := 0) HN.1).trans f0; have HN2 := hide HN.2; clear hs2 ho2 how2 tok _t HN)
  go_end0
  exact ⟨rfl, ao', cap', HN2.out⟩

theorem tenth_sum (a b R : Nat) (hb : a + (b + 9) / 10 ≤ R) (hR : R < 9223372036854775808) (h2 : b ≤ 90) : wrap64 (wrap64 (a : Int) + wrap64 ((wrap64 (wrap64 (b : Int) + 9)).tdiv 10)) = ((a + (b + 9) / 10 : Nat) : Int) := by
  have w1 : wrap64 (a : Int) = a := IntWalk.wrap64_in _ ⟨by omega, by omega⟩
  have w2 : wrap64 (b : Int) = b := IntWalk.wrap64_in _ ⟨by omega, by omega⟩
  have w3 : wrap64 ((b : Int) + 9) = (b : Int) + 9 := IntWalk.wrap64_in _ ⟨by omega, by omega⟩
  have e3 : ((b : Int) + 9).tdiv 10 = ((b : Int) + 9) / 10 := Int.tdiv_eq_ediv_of_nonneg (by omega)
  have w4 : wrap64 (((b : Int) + 9) / 10) = ((b : Int) + 9) / 10 := IntWalk.wrap64_in _ ⟨by omega, by omega⟩
  rw [w1, w2, w3, e3, w4, IntWalk.wrap64_in _ ⟨by omega, by omega⟩]
  omega
theorem tenth_val (R i : Nat) (hR : R < 9223372036854775808) (hi : i ≤ 10) :
    wrap64 (wrap64 ((R : Int) / 10 * (i : Int)) + wrap64 ((wrap64 (wrap64 ((R : Int) % 10 * (i : Int)) + 9)).tdiv 10)) = ((tenthN R i : Nat) : Int) := by
  have h := tenth_sum (R / 10 * i) (R % 10 * i) R (tenthN_bound R i hi) hR (Nat.mul_le_mul (show R % 10 ≤ 9 by omega) hi)
  rw [Int.natCast_mul, Int.natCast_mul, Int.natCast_ediv, Int.natCast_emod] at h
  exact h

theorem tenth_any (R i : Nat) (w : World) (hR : R < 9223372036854775808) (hi : i ≤ 10) :
    Calls Yba.prog 30 #[.int .i64 (R : Int), .int .i64 (i : Int)] w fun e w' => e = .returned (.int .i64 (tenthN R i : Int)) ∧ w' = w := by
  have hv := hide (tenth_val R i hR hi)
  go_enter Yba.func30, Yba.ntmps30
  go_wp2
  go_ret
  exact ⟨by rw [hv.out]; rfl, rfl⟩

/-- The tally in memory. -/
def tob (LG sd R lock c : Nat) (f : Bool) (M t : Nat) : Obj :=
  .cells #[.func (.func 16) #[] #[.pointer (some ⟨LG, 0, none⟩)], .int .u64 (sd : Int), .int .i64 (R : Int), .int .i32 (lock : Int), .int .u32 0, .int .u64 (c : Int), .bool f, .map (some M), .int .i64 (t : Int)] 73 (0, 0)
theorem tob_cell {w : World} {T LG sd R lock c : Nat} {f : Bool} {M t : Nat} (h : w.heap[T]? = some (tob LG sd R lock c f M t)) :
    w.cell? ⟨T, 0, none⟩ = some (.func (.func 16) #[] #[.pointer (some ⟨LG, 0, none⟩)]) ∧ w.cell? ⟨T, 1, none⟩ = some (.int .u64 (sd : Int)) ∧ w.cell? ⟨T, 2, none⟩ = some (.int .i64 (R : Int)) ∧ w.cell? ⟨T, 3, none⟩ = some (.int .i32 (lock : Int)) ∧
    w.cell? ⟨T, 5, none⟩ = some (.int .u64 (c : Int)) ∧ w.cell? ⟨T, 6, none⟩ = some (.bool f) ∧ w.cell? ⟨T, 7, none⟩ = some (.map (some M)) ∧ w.cell? ⟨T, 8, none⟩ = some (.int .i64 (t : Int)) := by
  unfold tob at h
  have e : ∀ i, w.cell? ⟨T, i, none⟩ = _ := fun i => cell_of_row w T i _ 73 (0, 0) h
  exact ⟨e 0, e 1, e 2, e 3, e 5, e 6, e 7, e 8⟩
theorem tob_free {w : World} {T LG sd R lock c : Nat} {f : Bool} {M t : Nat} (h : w.heap[T]? = some (tob LG sd R lock c f M t)) (i : Nat) : w.frozen? ⟨T, i, none⟩ = false := frozen_of_row w T i _ 73 h

theorem seed_val (sd c : Nat) (hc : 0 < c) : IntKind.u64.wrap (IntKind.u64.wrap ((sd : Int) + (c : Int)) - 1) = ((seedV sd c true : Nat) : Int) := by
  have e : ∀ n : Int, IntKind.u64.wrap n = n % 18446744073709551616 := fun n => by simp [IntKind.wrap, IntKind.bits, IntKind.signed]
  rw [e, e]
  simp only [seedV, if_true]
  omega

theorem lv_later {w w' : World} {LG R : Nat} {ao : Option Addr} {cap : Nat} {ps : List Pg} (h : LV w LG R ao cap ps) (ho : Outside [] w w') : LV w' LG R ao cap ps := h.outside ho (by simp) (by simp)

set_option maxRecDepth 100000 in
set_option maxHeartbeats 1000000 in
theorem report_f (T LG sd R c M t : Nat) (ao : Option Addr) (cap : Nat) (ps : List Pg) (w : World) (ht : w.heap[T]? = some (tob LG sd R 1 c false M t)) (h : LV w LG R ao cap ps) (hn : ps.length ≤ 100000) (hc : c ≤ 100000) :
    Calls Yba.prog 31 #[.pointer (some ⟨T, 0, none⟩), .bool false] w fun e w' => e = .returned (.tuple #[]) ∧ ∃ ao' cap', LV w' LG R ao' cap' (ps ++ [⟨c, false, 0⟩]) ∧ Turn [LG] w w' ao cap ao' cap' := by
  obtain ⟨c0, c1, c2, c3, c5, c6, c7, c8⟩ := tob_cell ht
  have hlt := lt_of_block ht
  have HL := hide h
  clear h ht
  go_enter Yba.func31, Yba.ntmps31
  go_wp2
  go_region
  go_wp2
  go_region_with (go_at_call 16; refine (log_one LG R ao cap ps ⟨c, false, 0⟩ _ (lv_later HL.out (((Outside.refl [] w).alloc _).drew.drew)) hn).mono ?_; rintro e w' ⟨rfl, hy⟩; have HZ := hide hy; clear hy)
  all_goals
    go_end0
    obtain ⟨ao', cap', h1, h2⟩ := HZ.out
    exact ⟨rfl, ao', cap', h1, (Turn.of_out (((Outside.refl [LG] w).alloc _).drew.drew) ao cap).trans h2⟩

set_option maxRecDepth 100000 in
set_option maxHeartbeats 1000000 in
theorem report_t (T LG sd R c M t : Nat) (ao : Option Addr) (cap : Nat) (ps : List Pg) (w : World) (ht : w.heap[T]? = some (tob LG sd R 1 c true M t)) (h : LV w LG R ao cap ps) (hn : ps.length ≤ 100000) (hc : c ≤ 100000) (hc0 : 0 < c) (hsd : sd < 2 ^ 64) :
    Calls Yba.prog 31 #[.pointer (some ⟨T, 0, none⟩), .bool false] w fun e w' => e = .returned (.tuple #[]) ∧ ∃ ao' cap', LV w' LG R ao' cap' (ps ++ [⟨c, true, seedV sd c true⟩]) ∧ Turn [LG] w w' ao cap ao' cap' := by
  obtain ⟨c0, c1, c2, c3, c5, c6, c7, c8⟩ := tob_cell ht
  have hlt := lt_of_block ht
  have HL := hide h
  clear h ht
  go_enter Yba.func31, Yba.ntmps31
  go_wp2
  go_region
  go_wp2
  go_region
  rw [seed_val sd c hc0]
  go_wp2
  go_region_with (go_at_call 16; refine (log_one LG R ao cap ps ⟨c, true, seedV sd c true⟩ _ (lv_later HL.out (((Outside.refl [] w).alloc _).drew.drew.drew)) hn).mono ?_; rintro e w' ⟨rfl, hy⟩; have HZ := hide hy; clear hy)
  all_goals
    go_end0
    obtain ⟨ao', cap', h1, h2⟩ := HZ.out
    exact ⟨rfl, ao', cap', h1, (Turn.of_out (((Outside.refl [LG] w).alloc _).drew.drew.drew) ao cap).trans h2⟩

end Go.Proofs.Ybulkduge
