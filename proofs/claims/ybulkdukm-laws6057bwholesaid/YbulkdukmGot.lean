/-
  THE SLICE THAT THE LAW's CLOSURE FILLS (law C); THE WALK OF 'LawS6057CWhole$1' (21).
-/
import Derived.Test.YbulkdukmCPlain
import Derived.Test.YbulkdukmProg
import Derived.WalkLawsBesides
import Derived.WalkSpells
import Derived.Outline
import Derived.Deep.RegionWith
namespace Go.Proofs.Ybulkdukm
open Go.RowKit
set_option linter.unusedVariables false

theorem Yba.info46 : (Yba.prog.info? 46).map (fun i => (i.zero, i.size, i.bytes)) = some (some (.pointer none), 1, 8) := by kernel_rfl

/-- The world has turned in the blocks of S and in what the slice (ao, cap) owns; what (ao', cap') owns it owned before, or it is new. -/
structure Turn (S : List Nat) (w w' : World) (ao : Option Addr) (cap : Nat) (ao' : Option Addr) (cap' : Nat) : Prop where
  out : Outside (S ++ ownB ao cap) w w'
  own : ∀ g ∈ ownB ao' cap', g ∈ ownB ao cap ∨ w.heap.size ≤ g

theorem Turn.refl (S : List Nat) (w : World) (ao : Option Addr) (cap : Nat) : Turn S w w ao cap ao cap := ⟨Outside.refl _ _, fun g h => .inl h⟩
theorem Turn.of_out {S : List Nat} {w w' : World} (h : Outside S w w') (ao : Option Addr) (cap : Nat) : Turn S w w' ao cap ao cap := ⟨h.mono (by intro x hx; simp [hx]), fun g h => .inl h⟩
theorem Turn.trans {S : List Nat} {w w1 w2 : World} {a a1 a2 : Option Addr} {c c1 c2 : Nat} (h : Turn S w w1 a c a1 c1) (k : Turn S w1 w2 a1 c1 a2 c2) : Turn S w w2 a c a2 c2 := by
  have hz := h.out.size
  refine ⟨h.out.then k.out (fun x hx => ?_), fun g hg => ?_⟩
  · rcases List.mem_append.1 hx with h1 | h1
    · exact .inl (List.mem_append.2 (.inl h1))
    · rcases h.own x h1 with h2 | h2
      · exact .inl (List.mem_append.2 (.inr h2))
      · exact .inr h2
  · rcases k.own g hg with h1 | h1
    · exact h.own g h1
    · exact .inr (by omega)
theorem Turn.mono {S T : List Nat} {w w' : World} {a a' : Option Addr} {c c' : Nat} (h : Turn S w w' a c a' c') (hT : ∀ x ∈ S, x ∈ T) : Turn T w w' a c a' c' :=
  ⟨h.out.mono (fun x hx => by rcases List.mem_append.1 hx with h1 | h1; exact List.mem_append.2 (.inl (hT x h1)); exact List.mem_append.2 (.inr h1)), h.own⟩

theorem Slc.not_own' {w : World} {e e' : TypeId} {size : Nat} {ao : Option Addr} {n cap : Nat} {xs : List Value} (h : Slc w e size ao n cap xs) {b : Nat} {cs : Array Value} (hb : w.heap[b]? = some (.cells cs e' (0, 0))) (hne : e ≠ e') : b ∉ ownB ao cap := by
  intro hm
  have h0 : cap ≠ 0 := by intro h0; simp [ownB, h0] at hm
  obtain ⟨g, off, cur, he, hh, _⟩ := h.at_ (by omega)
  simp only [ownB, h0, if_false, he] at hm
  simp at hm
  subst hm
  rw [hh] at hb
  simp at hb
  exact hne hb.2
theorem cell_eq' {w w2 : World} {b i : Nat} (h : w2.heap[b]? = w.heap[b]?) : w2.cell? ⟨b, i, none⟩ = w.cell? ⟨b, i, none⟩ := World.cell?_of_block (w := w) h
theorem fz_eq' {w w2 : World} {b i : Nat} (h : w2.heap[b]? = w.heap[b]?) : w2.frozen? ⟨b, i, none⟩ = w.frozen? ⟨b, i, none⟩ := World.frozen?_of_block (w := w) h

/-- A pointer to the waiter in block b. -/
def pv (b : Nat) : Value := .pointer (some ⟨b, 0, none⟩)
def pvs (gs : List Nat) : List Value := gs.map pv
theorem pvs_snoc (gs : List Nat) (b : Nat) : pvs gs ++ [pv b] = pvs (gs ++ [b]) := by simp [pvs]
theorem pvs_one (gs : List Nat) : ∀ u ∈ pvs gs, u.oneCell' = true := by
  intro u hu
  simp only [pvs, List.mem_map] at hu
  obtain ⟨b, _, rfl⟩ := hu
  rfl

/-- The variable at block GV holds the slice (ao, cap) of pointers to the blocks gs. -/
def LV (w : World) (GB : Nat) (ao : Option Addr) (cap : Nat) (gs : List Nat) : Prop :=
  w.heap[GB]? = some (.cells #[.slice ao gs.length cap] 78 (0, 0)) ∧ Slc w 46 1 ao gs.length cap (pvs gs)
theorem LV.tag {w : World} {GB : Nat} {ao : Option Addr} {cap : Nat} {gs : List Nat} (h : LV w GB ao cap gs) : GB ∉ ownB ao cap := h.2.not_own' h.1 (by decide)
theorem LV.outside {S : List Nat} {w w' : World} {GB : Nat} {ao : Option Addr} {cap : Nat} {gs : List Nat} (h : LV w GB ao cap gs) (ho : Outside S w w') (h1 : GB ∉ S) (h2 : ∀ g ∈ ownB ao cap, g ∉ S) : LV w' GB ao cap gs :=
  ⟨ho.obj h.1 h1, h.2.outside ho h2⟩

theorem pv_news {W : World} (b B : Nat) (hB : B = W.heap.size) : ∀ j u, [pv b][j]? = some u → (W.alloc (.cells #[pv b] 46)).cell? ((⟨B, 0, none⟩ : Addr).add j) = some u := by
  subst hB
  intro j u hu
  have ea : (⟨W.heap.size, 0, none⟩ : Addr).add j = ⟨W.heap.size, j, none⟩ := by unfold Addr.add; split <;> simp_all
  rw [ea, cell_of_row _ _ _ _ 46 (0, 0) (heap_alloc_new W _)]
  simpa using hu
theorem slc_alloc {w : World} {e : TypeId} {size : Nat} {ao : Option Addr} {n cap : Nat} {xs : List Value} (h : Slc w e size ao n cap xs) (o : Obj) : Slc (w.alloc o) e size ao n cap xs :=
  h.outside (S := []) ((Outside.refl [] w).alloc o) (by simp)

theorem lv_next {w w2 : World} {GB : Nat} {ao ao' : Option Addr} {cap cap' : Nat} {gs : List Nat} {b : Nat} (h : LV w GB ao cap gs) (o : Obj) (hs : Slc w2 46 1 ao' (gs.length + 1) cap' (pvs gs ++ [pv b])) (ho : Outside (ownB ao cap) (w.alloc o) w2) (how : ∀ g ∈ ownB ao' cap', g ∈ ownB ao cap ∨ (w.alloc o).heap.size ≤ g) :
    (w2.heap[GB]? = w.heap[GB]?) ∧ LV (w2.setCell ⟨GB, 0, none⟩ (.slice ao' (gs.length + 1) cap')) GB ao' cap' (gs ++ [b]) ∧ Turn [GB] w (w2.setCell ⟨GB, 0, none⟩ (.slice ao' (gs.length + 1) cap')) ao cap ao' cap' ∧ Outside (ownB ao cap) w w2 := by
  have hlt : GB < w.heap.size := lt_of_block h.1
  have hO : Outside (ownB ao cap) w w2 := ((Outside.refl _ w).alloc o).trans ho
  have hB : w2.heap[GB]? = w.heap[GB]? := hO.block GB hlt h.tag
  have hown : ∀ g ∈ ownB ao' cap', g ∈ ownB ao cap ∨ w.heap.size ≤ g := fun g hg => by
    rcases how g hg with h1 | h1
    · exact .inl h1
    · simp at h1; exact .inr (by omega)
  have hne : GB ∉ ownB ao' cap' := fun hm => by
    rcases hown GB hm with h1 | h1
    · exact h.tag h1
    · omega
  refine ⟨hB, ⟨?_, ?_⟩, ⟨?_, hown⟩, hO⟩
  · rw [heap_setCell_same w2 GB 0 _ 78 _ (hB.trans h.1)]
    simp
  · rw [pvs_snoc] at hs
    have := hs.outside (w' := w2.setCell ⟨GB, 0, none⟩ (.slice ao' (gs.length + 1) cap')) (S := [GB]) ((Outside.refl _ w2).setCell GB 0 (.inl (by simp)) _) (fun g hg => by simp; rintro rfl; exact hne hg)
    simpa using this
  · exact (hO.mono (by intro x hx; simp [hx])).setCell GB 0 (.inl (by simp)) _

/-- Whether the closure asks for more behind the k-th. -/
def more (n limit k : Nat) : Bool := decide (limit = n + 1 ∨ k < limit)

set_option maxRecDepth 100000 in
set_option maxHeartbeats 1000000 in
theorem yield_any (GB LB NB n limit b : Nat) (ao : Option Addr) (cap : Nat) (gs : List Nat) (w : World) (h : LV w GB ao cap gs) (hl : w.heap[LB]? = some (.cells #[.int .i64 (limit : Int)] 3 (0, 0))) (hn : w.heap[NB]? = some (.cells #[.int .i64 (n : Int)] 3 (0, 0))) (hg : gs.length ≤ 200000) (hn1 : n ≤ 100000) (hl1 : limit ≤ 100002) :
    Calls Yba.prog 21 #[.pointer (some ⟨b, 0, none⟩), .pointer (some ⟨GB, 0, none⟩), .pointer (some ⟨LB, 0, none⟩), .pointer (some ⟨NB, 0, none⟩)] w fun e w' => e = .returned (.bool (more n limit (gs.length + 1))) ∧ ∃ ao' cap', LV w' GB ao' cap' (gs ++ [b]) ∧ Turn [GB] w w' ao cap ao' cap' := by
  obtain ⟨i46, hi46, hz0, hz1, hz2⟩ := info_parts Yba.info46
  have HG := hide h
  have c0 : w.cell? ⟨GB, 0, none⟩ = some (.slice ao gs.length cap) := by rw [cell_of_row w GB 0 _ 78 (0, 0) h.1]; rfl
  have cl : w.cell? ⟨LB, 0, none⟩ = some (.int .i64 (limit : Int)) := by rw [cell_of_row w LB 0 _ 3 (0, 0) hl]; rfl
  have cn : w.cell? ⟨NB, 0, none⟩ = some (.int .i64 (n : Int)) := by rw [cell_of_row w NB 0 _ 3 (0, 0) hn]; rfl
  have f0 : w.frozen? ⟨GB, 0, none⟩ = false := frozen_of_row w GB 0 _ 78 h.1
  have hlt : GB < w.heap.size := lt_of_block h.1
  have hLG : LB ≠ GB := by rintro rfl; rw [h.1] at hl; simp at hl
  have hNG : NB ≠ GB := by rintro rfl; rw [h.1] at hn; simp at hn
  have HLO := hide (h.2.not_own' hl (by decide))
  have HNO := hide (h.2.not_own' hn (by decide))
  have HS := hide h.2
  clear h hl hn
  have hmore : more n limit (gs.length + 1) = (if limit = n + 1 then true else decide (gs.length + 1 < limit)) := by
    unfold more
    split
    · rename_i e; simp [e]
    · rename_i e; simp [e]
  rw [hmore]
  clear hmore
  by_cases he : limit = n + 1
  · rw [if_pos he]
    have t0 : ((limit : Int) == (n : Int) + 1) = true := by rw [beq_iff_eq]; omega
    clear he
    go_enter Yba.func21, Yba.ntmps21
    have tok : True := trivial
    go_wp2_with (at_builtin; go_must (have _t := tok; refine wpList_append_cut _ rfl (.tmp 6) (.tmp 8) 78 rfl 46 i46 (.pointer none) 1 8 Yba.underlying78 hi46 hz0 hz1 hz2 rfl (by decide) ao gs.length cap (pvs gs) rfl (slc_alloc HS.out _) ⟨w.heap.size, 0, none⟩ 1 1 [pv b] rfl rfl (pv_news b _ rfl) (pvs_one [b]) (by decide) (by unfold maxLen; omega) (by omega) ?_; intro ao' cap' w2 hs2 ho2 how2; have HN := lv_next HG.out _ hs2 ho2 how2; have c2 := (cell_eq' (i := 0) HN.1).trans c0; have f2 := (fz_eq' (i := 0) HN.1).trans f0; have cl2 := HN.2.2.2.cell cl HLO.out; have cn2 := HN.2.2.2.cell cn HNO.out; have HN2 := hide HN.2; clear hs2 ho2 how2 tok _t HN))
    go_ret
    exact ⟨rfl, ao', cap', HN2.out.1, HN2.out.2.1⟩
  · rw [if_neg he]
    have t0 : ((limit : Int) == (n : Int) + 1) = false := by rw [beq_eq_false_iff_ne]; omega
    have HDE : Hid (decide ((gs.length : Int) + 1 < (limit : Int)) = decide (gs.length + 1 < limit)) := by show _ = _; rw [decide_eq_decide]; omega
    clear he
    go_enter Yba.func21, Yba.ntmps21
    have tok : True := trivial
    go_wp2_with (at_builtin; go_must (have _t := tok; refine wpList_append_cut _ rfl (.tmp 6) (.tmp 8) 78 rfl 46 i46 (.pointer none) 1 8 Yba.underlying78 hi46 hz0 hz1 hz2 rfl (by decide) ao gs.length cap (pvs gs) rfl (slc_alloc HS.out _) ⟨w.heap.size, 0, none⟩ 1 1 [pv b] rfl rfl (pv_news b _ rfl) (pvs_one [b]) (by decide) (by unfold maxLen; omega) (by omega) ?_; intro ao' cap' w2 hs2 ho2 how2; have HN := lv_next HG.out _ hs2 ho2 how2; have c2 := (cell_eq' (i := 0) HN.1).trans c0; have f2 := (fz_eq' (i := 0) HN.1).trans f0; have cl2 := HN.2.2.2.cell cl HLO.out; have cn2 := HN.2.2.2.cell cn HNO.out; have HN2 := hide HN.2; clear hs2 ho2 how2 tok _t HN))
    go_ret
    exact ⟨by rw [← HDE.out]; rfl, ao', cap', HN2.out.1, HN2.out.2.1⟩

end Go.Proofs.Ybulkdukm
