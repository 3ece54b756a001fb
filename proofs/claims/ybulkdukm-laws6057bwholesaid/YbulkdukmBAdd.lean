/-
  'add' OF AN UNORDERED LIST (13, 14), AND 'remove' (34, 35) (law B).
-/
import Derived.Test.YbulkdukmGot
import Derived.BigQuiet
namespace Go.Proofs.Ybulkdukm
open Go.RowKit
set_option linter.unusedVariables false

theorem Yba.info106 : (Yba.prog.info? 106).map (fun i => (i.zero, i.size, i.bytes)) = some (some (.agg #[.pointer none, .pointer none]), 2, 16) := by kernel_rfl
theorem Yba.info108 : (Yba.prog.info? 108).map (fun i => (i.zero, i.size, i.bytes)) = some (some (.agg #[.pointer none, .pointer none]), 2, 16) := by kernel_rfl

/-- One entry of such a list: the element, and the address of its index. -/
def ent (X P po : Nat) : List Value := [.pointer (some ⟨X, 0, none⟩), .pointer (some ⟨P, po, none⟩)]
theorem ent_one (X P po : Nat) : ∀ u ∈ ent X P po, u.oneCell' = true := by
  intro u hu
  simp only [ent, List.mem_cons, List.not_mem_nil, or_false] at hu
  rcases hu with rfl | rfl <;> rfl
theorem ent_news {W : World} (X P po : Nat) (t : TypeId) (B : Nat) (hB : B = W.heap.size) : ∀ j u, (ent X P po)[j]? = some u → (W.alloc (.cells #[.pointer (some ⟨X, 0, none⟩), .pointer (some ⟨P, po, none⟩)] t)).cell? ((⟨B, 0, none⟩ : Addr).add j) = some u := by
  subst hB
  intro j u hu
  have ea : (⟨W.heap.size, 0, none⟩ : Addr).add j = ⟨W.heap.size, j, none⟩ := by unfold Addr.add; split <;> simp_all
  rw [ea, cell_of_row _ _ _ _ t (0, 0) (heap_alloc_new W _)]
  simpa [ent] using hu

/-- What 'add' leaves: the list grown, the index laid. -/
structure Added (e : TypeId) (w w' : World) (L o P po X : Nat) (cL cP : Array Value) (tL tP : TypeId) (ao : Option Addr) (n cap : Nat) (xs : List Value) (ao' : Option Addr) (cap' : Nat) : Prop where
  out : Outside (L :: P :: ownB ao cap) w w'
  list : w'.heap[L]? = some (.cells (cL.setIfInBounds o (.slice ao' (n + 1) cap')) tL (0, 0))
  at_ : w'.heap[P]? = some (.cells (cP.setIfInBounds po (.int .i64 (n : Int))) tP (0, 0))
  slc : Slc w' e 2 ao' (n + 1) cap' (xs ++ ent X P po)
  own : ∀ g ∈ ownB ao' cap', g ∈ ownB ao cap ∨ w.heap.size ≤ g

theorem added_of {e : TypeId} {w w2 : World} {L o P po X : Nat} {cL cP : Array Value} {tL tP : TypeId} {ao ao' : Option Addr} {n cap cap' : Nat} {xs : List Value} {ob : Obj} (hL : w.heap[L]? = some (.cells cL tL (0, 0))) (hP : w.heap[P]? = some (.cells cP tP (0, 0))) (hLP : L ≠ P) (hLo : L ∉ ownB ao cap) (hPo : P ∉ ownB ao cap)
    (hs : Slc w2 e 2 ao' (n + 1) cap' (xs ++ ent X P po)) (ho : Outside (ownB ao cap) ((w.setCell ⟨P, po, none⟩ (.int .i64 (n : Int))).alloc ob) w2) (how : ∀ g ∈ ownB ao' cap', g ∈ ownB ao cap ∨ ((w.setCell ⟨P, po, none⟩ (.int .i64 (n : Int))).alloc ob).heap.size ≤ g) :
    w2.heap[L]? = some (.cells cL tL (0, 0)) ∧ Added e w (w2.setCell ⟨L, o, none⟩ (.slice ao' (n + 1) cap')) L o P po X cL cP tL tP ao n cap xs ao' cap' := by
  have hltL := lt_of_block hL
  have hltP := lt_of_block hP
  have o1 : Outside [P] w ((w.setCell ⟨P, po, none⟩ (.int .i64 (n : Int))).alloc ob) := ((Outside.refl [P] w).setCell P po (.inl (by simp)) _).alloc ob
  have o2 : Outside (P :: ownB ao cap) w w2 := (o1.mono (by simp)).then ho (fun x hx => .inl (by simp [hx]))
  have hL2 : w2.heap[L]? = some (.cells cL tL (0, 0)) := o2.obj hL (by simp [hLP, hLo])
  have hown : ∀ g ∈ ownB ao' cap', g ∈ ownB ao cap ∨ w.heap.size ≤ g := fun g hg => by
    rcases how g hg with h1 | h1
    · exact .inl h1
    · right
      have := o1.size
      omega
  have hLn : L ∉ ownB ao' cap' := fun hm => by
    rcases hown L hm with h1 | h1
    · exact hLo h1
    · omega
  refine ⟨hL2, (o2.mono (T := L :: P :: ownB ao cap) (fun x hx => List.mem_cons_of_mem _ hx)).setCell L o (.inl (by simp)) _, heap_setCell_same w2 L o cL tL _ hL2, ?_, ?_, hown⟩
  · rw [Below.heap_setCell _ _ _ P (fun e => hLP e.symm)]
    refine ho.obj ?_ hPo
    exact ((Outside.refl [] _).alloc ob).obj (heap_setCell_same w P po cP tP _ hP) (by simp)
  · exact hs.outside (S := [L]) ((Outside.refl _ w2).setCell L o (.inl (by simp)) _) (fun g hg => by simp; rintro rfl; exact hLn hg)

set_option maxRecDepth 100000 in
set_option maxHeartbeats 1000000 in
theorem add_w (L o P po X n cap : Nat) (ao : Option Addr) (xs : List Value) (cL cP : Array Value) (tL tP : TypeId) (v : Int) (w : World) (hL : w.heap[L]? = some (.cells cL tL (0, 0))) (hP : w.heap[P]? = some (.cells cP tP (0, 0))) (hLP : L ≠ P) (hc : cL[o]? = some (.slice ao n cap)) (hp : cP[po]? = some (.int .i64 v))
    (hs : Slc w 106 2 ao n cap xs) (htL : 106 ≠ tL) (htP : 106 ≠ tP) (hn : n ≤ 200000) :
    Calls Yba.prog 14 #[.pointer (some ⟨L, o, none⟩), .pointer (some ⟨X, 0, none⟩), .pointer (some ⟨P, po, none⟩)] w fun e w' => e = .returned (.tuple #[]) ∧ ∃ ao' cap', Added 106 w w' L o P po X cL cP tL tP ao n cap xs ao' cap' := by
  obtain ⟨ie, hie, hz0, hz1, hz2⟩ := info_parts Yba.info106
  have c0 : w.cell? ⟨L, o, none⟩ = some (.slice ao n cap) := by rw [cell_of_row w L o _ tL (0, 0) hL]; exact hc
  have f0 : w.frozen? ⟨L, o, none⟩ = false := frozen_of_row w L o _ tL hL
  have c1 : w.cell? ⟨P, po, none⟩ = some (.int .i64 v) := by rw [cell_of_row w P po _ tP (0, 0) hP]; exact hp
  have f1 : w.frozen? ⟨P, po, none⟩ = false := frozen_of_row w P po _ tP hP
  have hLo : L ∉ ownB ao cap := hs.not_own' hL htL
  have hPo : P ∉ ownB ao cap := hs.not_own' hP htP
  have hltL := lt_of_block hL
  have hltP := lt_of_block hP
  have HH := hide (And.intro hL (And.intro hP (And.intro hLo hPo)))
  have HS1 := hide (hs.outside (S := [P]) ((Outside.refl _ w).setCell P po (.inl (by simp)) (.int .i64 (n : Int))) (fun g hg => by simp; rintro rfl; exact hPo hg))
  have hPL : P ≠ L := fun e => hLP e.symm
  clear hL hP hc hp hs hLo hPo
  go_enter Yba.func14, Yba.ntmps14
  have tok : True := trivial
  go_wp2_with (at_builtin; go_must (have _t := tok; refine wpList_append_cut _ rfl (.tmp 15) (.tmp 19) 56 rfl 106 ie (.agg #[.pointer none, .pointer none]) 2 16 Yba.underlying56 hie hz0 hz1 hz2 rfl (by decide) ao n cap xs rfl (slc_alloc HS1.out _) ⟨_, 0, none⟩ 1 1 (ent X P po) rfl rfl (ent_news X P po 106 _ (by simp [World.setCell])) (ent_one _ _ _) (by decide) (by unfold maxLen; omega) (by omega) ?_; intro ao' cap' w2 hs2 ho2 how2; have HN := added_of (o := o) HH.out.1 HH.out.2.1 hLP HH.out.2.2.1 HH.out.2.2.2 hs2 ho2 how2; have k0 : w2.cell? ⟨L, o, none⟩ = some (.slice ao n cap) := (cell_eq' (i := o) (HN.1.trans HH.out.1.symm)).trans c0; have k1 : w2.frozen? ⟨L, o, none⟩ = false := (fz_eq' (i := o) (HN.1.trans HH.out.1.symm)).trans f0; have HN2 := hide HN.2; clear hs2 ho2 how2 tok _t HN))
  go_end0
  exact ⟨rfl, ao', cap', HN2.out⟩

set_option maxRecDepth 100000 in
set_option maxHeartbeats 1000000 in
theorem add_n (L o P po X n cap : Nat) (ao : Option Addr) (xs : List Value) (cL cP : Array Value) (tL tP : TypeId) (v : Int) (w : World) (hL : w.heap[L]? = some (.cells cL tL (0, 0))) (hP : w.heap[P]? = some (.cells cP tP (0, 0))) (hLP : L ≠ P) (hc : cL[o]? = some (.slice ao n cap)) (hp : cP[po]? = some (.int .i64 v))
    (hs : Slc w 108 2 ao n cap xs) (htL : 108 ≠ tL) (htP : 108 ≠ tP) (hn : n ≤ 200000) :
    Calls Yba.prog 13 #[.pointer (some ⟨L, o, none⟩), .pointer (some ⟨X, 0, none⟩), .pointer (some ⟨P, po, none⟩)] w fun e w' => e = .returned (.tuple #[]) ∧ ∃ ao' cap', Added 108 w w' L o P po X cL cP tL tP ao n cap xs ao' cap' := by
  obtain ⟨ie, hie, hz0, hz1, hz2⟩ := info_parts Yba.info108
  have c0 : w.cell? ⟨L, o, none⟩ = some (.slice ao n cap) := by rw [cell_of_row w L o _ tL (0, 0) hL]; exact hc
  have f0 : w.frozen? ⟨L, o, none⟩ = false := frozen_of_row w L o _ tL hL
  have c1 : w.cell? ⟨P, po, none⟩ = some (.int .i64 v) := by rw [cell_of_row w P po _ tP (0, 0) hP]; exact hp
  have f1 : w.frozen? ⟨P, po, none⟩ = false := frozen_of_row w P po _ tP hP
  have hLo : L ∉ ownB ao cap := hs.not_own' hL htL
  have hPo : P ∉ ownB ao cap := hs.not_own' hP htP
  have hltL := lt_of_block hL
  have hltP := lt_of_block hP
  have HH := hide (And.intro hL (And.intro hP (And.intro hLo hPo)))
  have HS1 := hide (hs.outside (S := [P]) ((Outside.refl _ w).setCell P po (.inl (by simp)) (.int .i64 (n : Int))) (fun g hg => by simp; rintro rfl; exact hPo hg))
  have hPL : P ≠ L := fun e => hLP e.symm
  clear hL hP hc hp hs hLo hPo
  go_enter Yba.func13, Yba.ntmps13
  have tok : True := trivial
  go_wp2_with (at_builtin; go_must (have _t := tok; refine wpList_append_cut _ rfl (.tmp 15) (.tmp 19) 75 rfl 108 ie (.agg #[.pointer none, .pointer none]) 2 16 Yba.underlying75 hie hz0 hz1 hz2 rfl (by decide) ao n cap xs rfl (slc_alloc HS1.out _) ⟨_, 0, none⟩ 1 1 (ent X P po) rfl rfl (ent_news X P po 108 _ (by simp [World.setCell])) (ent_one _ _ _) (by decide) (by unfold maxLen; omega) (by omega) ?_; intro ao' cap' w2 hs2 ho2 how2; have HN := added_of (o := o) HH.out.1 HH.out.2.1 hLP HH.out.2.2.1 HH.out.2.2.2 hs2 ho2 how2; have k0 : w2.cell? ⟨L, o, none⟩ = some (.slice ao n cap) := (cell_eq' (i := o) (HN.1.trans HH.out.1.symm)).trans c0; have k1 : w2.frozen? ⟨L, o, none⟩ = false := (fz_eq' (i := o) (HN.1.trans HH.out.1.symm)).trans f0; have HN2 := hide HN.2; clear hs2 ho2 how2 tok _t HN))
  go_end0
  exact ⟨rfl, ao', cap', HN2.out⟩

end Go.Proofs.Ybulkdukm
