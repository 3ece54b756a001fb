/-
  'WholeWords' (4).
-/
import Derived.Test.YbulkduloHas
namespace Go.Proofs.Ybulkdulo
open Go.RowKit
set_option linter.unusedVariables false

theorem Yba.info27 : (Yba.prog.info? 27).map (fun i => (i.zero, i.size, i.bytes)) = some (some (.agg #[.string ByteArray.empty, .bool false, .bool false]), 3, 24) := by kernel_rfl
theorem Yba.info9 : (Yba.prog.info? 9).map (fun i => (i.zero, i.size, i.bytes)) = some (some (.string ByteArray.empty), 1, 16) := by kernel_rfl

/-- The places below k whose string begins with p. -/
def hits (p : ByteArray) (sx : Nat → ByteArray) (k : Nat) : List Nat := (List.range k).filter fun j => has (sx j) p
theorem hits_succ (p : ByteArray) (sx : Nat → ByteArray) (k : Nat) : hits p sx (k + 1) = hits p sx k ++ (if has (sx k) p = true then [k] else []) := by
  unfold hits
  rw [List.range_succ, List.filter_append]
  simp [List.filter_cons]
theorem hits_len (p : ByteArray) (sx : Nat → ByteArray) (k : Nat) : (hits p sx k).length ≤ k := by
  unfold hits
  exact Nat.le_trans (List.length_filter_le _ _) (by simp)

/-- A completion's cells. -/
def comp (s : ByteArray) : List Value := [.string s, .bool true, .bool false]
def comps (sx : Nat → ByteArray) (is : List Nat) : List Value := is.flatMap fun j => comp (sx j)
theorem comps_snoc (sx : Nat → ByteArray) (is : List Nat) (j : Nat) : comps sx is ++ comp (sx j) = comps sx (is ++ [j]) := by simp [comps]
theorem comps_len (sx : Nat → ByteArray) (is : List Nat) : (comps sx is).length = is.length * 3 := by
  induction is with
  | nil => rfl
  | cons j is ih =>
    have : comps sx (j :: is) = comp (sx j) ++ comps sx is := rfl
    rw [this, List.length_append, ih]
    simp [comp]
    omega
theorem comps_get (sx : Nat → ByteArray) (is : List Nat) (i : Nat) (h : i < is.length) : (comps sx is)[i * 3]? = some (.string (sx is[i])) ∧ (comps sx is)[i * 3 + 1]? = some (.bool true) ∧ (comps sx is)[i * 3 + 2]? = some (.bool false) := by
  induction is generalizing i with
  | nil => simp at h
  | cons j is ih =>
    have e : comps sx (j :: is) = comp (sx j) ++ comps sx is := rfl
    rw [e]
    match i with
    | 0 => simp [comp]
    | i + 1 =>
      have := ih i (by simpa using h)
      have hl : (comp (sx j)).length = 3 := rfl
      rw [List.getElem?_append_right (by omega), List.getElem?_append_right (by omega), List.getElem?_append_right (by omega), hl, show (i + 1) * 3 - 3 = i * 3 by omega, show (i + 1) * 3 + 1 - 3 = i * 3 + 1 by omega, show (i + 1) * 3 + 2 - 3 = i * 3 + 2 by omega]
      simpa using this
theorem comp_one (s : ByteArray) : ∀ u ∈ comp s, u.oneCell' = true := by
  intro u hu
  simp only [comp, List.mem_cons, List.not_mem_nil, or_false] at hu
  rcases hu with rfl | rfl | rfl <;> rfl

/-- A slice of the call's own: nil as long as nothing is in it. -/
structure Own (w0 w : World) (e : TypeId) (size : Nat) (ao : Option Addr) (n cap : Nat) (xs : List Value) : Prop where
  slc : Slc w e size ao n cap xs
  nil : n = 0 → ao = none ∧ cap = 0
  own : ∀ g ∈ ownB ao cap, w0.heap.size ≤ g
  out : Outside [] w0 w

theorem Own.start (w0 w : World) (e : TypeId) (size : Nat) (h : Outside [] w0 w) : Own w0 w e size none 0 0 [] := ⟨Slc.nil _ _ _ _, fun _ => ⟨rfl, rfl⟩, by simp [ownB], h⟩
theorem Own.outside {w0 w w' : World} {e : TypeId} {size : Nat} {ao : Option Addr} {n cap : Nat} {xs : List Value} (h : Own w0 w e size ao n cap xs) (ho : Outside [] w w') : Own w0 w' e size ao n cap xs :=
  ⟨h.slc.outside ho (by simp), h.nil, h.own, h.out.trans ho⟩
theorem slc_alloc {w : World} {e : TypeId} {size : Nat} {ao : Option Addr} {n cap : Nat} {xs : List Value} (h : Slc w e size ao n cap xs) (o : Obj) : Slc (w.alloc o) e size ao n cap xs :=
  h.outside (S := []) ((Outside.refl [] w).alloc o) (by simp)
theorem Own.next {w0 w w2 : World} {e : TypeId} {size : Nat} {ao ao' : Option Addr} {n m cap cap' : Nat} {xs ys : List Value} (h : Own w0 w e size ao n cap xs) (ob : Obj) (hm : 0 < m)
    (hs : Slc w2 e size ao' (n + m) cap' ys) (ho : Outside (ownB ao cap) (w.alloc ob) w2) (how : ∀ g ∈ ownB ao' cap', g ∈ ownB ao cap ∨ (w.alloc ob).heap.size ≤ g) : Own w0 w2 e size ao' (n + m) cap' ys := by
  refine ⟨hs, fun h0 => by omega, fun g hg => ?_, h.out.then (((Outside.refl _ w).alloc ob).trans ho) (fun x hx => .inr (h.own x hx))⟩
  rcases how g hg with h1 | h1
  · exact h.own g h1
  · simp at h1
    have := h.out.size
    omega
theorem news_cells {W : World} (cs : List Value) (t : TypeId) (B : Nat) (hB : B = W.heap.size) : ∀ j u, cs[j]? = some u → (W.alloc (.cells cs.toArray t)).cell? ((⟨B, 0, none⟩ : Addr).add j) = some u := by
  subst hB
  intro j u hu
  have ea : (⟨W.heap.size, 0, none⟩ : Addr).add j = ⟨W.heap.size, j, none⟩ := by unfold Addr.add; split <;> simp_all
  rw [ea, cell_of_row _ _ _ _ t (0, 0) (heap_alloc_new W _)]
  simpa using hu

/-- The strings, as they lie. -/
def Src (w : World) (a : Option Addr) (len : Nat) (sx : Nat → ByteArray) : Prop :=
  0 < len → ∃ b off, a = some ⟨b, off, none⟩ ∧ b < w.heap.size ∧ ∀ j, j < len → (sx j).size ≤ maxLen ∧ w.cell? ⟨b, off + j, none⟩ = some (.string (sx j))
theorem Src.outside {w w' : World} {a : Option Addr} {len : Nat} {sx : Nat → ByteArray} (h : Src w a len sx) (ho : Outside [] w w') : Src w' a len sx := fun h0 => by
  obtain ⟨b, off, e, hb, hc⟩ := h h0
  exact ⟨b, off, e, Nat.lt_of_lt_of_le hb ho.size, fun j hj => ⟨(hc j hj).1, ho.cell (hc j hj).2 (by simp)⟩⟩

set_option maxRecDepth 100000 in
set_option maxHeartbeats 2000000 in
theorem words_any (p : ByteArray) (a : Option Addr) (len cap : Nat) (sx : Nat → ByteArray) (w : World) (hp : p.size ≤ maxLen) (hl : len ≤ 1048576) (hsrc : Src w a len sx) :
    Calls Yba.prog 4 #[.string p, .slice a len cap] w fun e w' => ∃ ao cp, e = .returned (.slice ao (hits p sx len).length cp) ∧ Own w w' 27 3 ao (hits p sx len).length cp (comps sx (hits p sx len)) := by
  obtain ⟨i27, hi27, hz0, hz1, hz2⟩ := info_parts Yba.info27
  have HP := hide hp
  have HSRC := hide hsrc
  clear hp hsrc
  go_enter Yba.func4, Yba.ntmps4
  go_wp2
  go_loopw [5, 10] (fun v iv wr => ∃ (k : Nat) (ao : Option Addr) (cp : Nat), k ≤ len ∧ v = .slice ao (hits p sx k).length cp ∧ iv = .int .i64 (k : Int) ∧ Own w wr 27 3 ao (hits p sx k).length cp (comps sx (hits p sx k))) (fun _ iv _ => len - (intOf iv).toNat)
  case atStart => exact ⟨0, none, 0, Nat.zero_le _, rfl, rfl, Own.start w w 27 3 (Outside.refl _ _)⟩
  case round =>
    obtain ⟨k, ao, cp, hk, rfl, rfl, hown⟩ := hrel
    have HO := hide hown
    have hlen := hits_len p sx k
    have HS := hide (hits_succ p sx k)
    clear hown
    by_cases hkl : k < len
    · obtain ⟨b, off, rfl, hb, hcs⟩ := HSRC.out (by omega)
      obtain ⟨hsz, x0⟩ := hcs k hkl
      have y0 := HO.out.out.cell x0 (by simp)
      have HH := hide (hp6 (sx k) p wr hsz HP.out)
      clear hcs x0 hsz
      generalize hgs : hits p sx k = gs at *
      obtain ⟨wo, rfl⟩ : ∃ wo : World, wo = wr := ⟨_, rfl⟩
      cases hh : has (sx k) p with
      | true =>
        rw [hh] at HH HS
        have HS' : Hid (hits p sx (k + 1) = gs ++ [k]) := by show _ = _; rw [HS.out]; simp
        clear HS hgs hh
        have tok : True := trivial
        go_wp2_with (first
          | (go_at_call 6; go_must (refine (unhide HH).mono ?_; rintro e w' ⟨rfl, rfl⟩))
          | (at_builtin; go_must (have _t := tok; refine wpList_append_cut _ rfl (.tmp 17) (.tmp 20) 23 rfl 27 i27 (.agg #[.string ByteArray.empty, .bool false, .bool false]) 3 24 Yba.underlying23 hi27 hz0 hz1 hz2 rfl (by decide) ao gs.length cp (comps sx gs) rfl (slc_alloc HO.out.slc _) ⟨_, 0, none⟩ 1 1 (comp (sx k)) rfl rfl (news_cells (comp (sx k)) 27 _ rfl) (comp_one _) (by decide) (by unfold maxLen; omega) (by omega) ?_; intro ao' cap' w2 hs2 ho2 how2; have HN := hide (HO.out.next _ (by decide) hs2 ho2 how2); clear hs2 ho2 how2 tok _t)))
        go_roundw
        case rel =>
          refine ⟨k + 1, ao', cap', by omega, ?_, by go_num, ?_⟩
          · rw [HS'.out]; simp
          · have e := HN.out
            rw [comps_snoc] at e
            rw [HS'.out]
            simpa using e
        case measure => simp [intOf]; omega
      | false =>
        rw [hh] at HH HS
        have HS' : Hid (hits p sx (k + 1) = gs) := by show _ = _; rw [HS.out]; simp
        clear HS hgs hh
        go_wp2_with (go_at_call 6; go_must (refine (unhide HH).mono ?_; rintro e w' ⟨rfl, rfl⟩))
        go_roundw
        case rel =>
          refine ⟨k + 1, ao, cp, by omega, ?_, by go_num, ?_⟩
          · rw [HS'.out]
          · rw [HS'.out]; exact HO.out
        case measure => simp [intOf]; omega
    · obtain rfl : k = len := by omega
      go_wp2
      go_ret
      exact ⟨ao, cp, rfl, HO.out⟩

end Go.Proofs.Ybulkdulo
