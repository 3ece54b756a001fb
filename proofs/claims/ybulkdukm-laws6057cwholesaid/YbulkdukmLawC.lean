/-
  THE WALK OF THE LAW (5) (law C).
-/
import Derived.Test.YbulkdukmAfter
import Derived.Test.YbulkdukmEq
import Derived.Deep.DeepCutAuto
import Derived.Deep.CutBlock
import Derived.Deep.MidRow
namespace Go.Proofs.Ybulkdukm
open Go.RowKit
set_option linter.unusedVariables false

set_option maxRecDepth 100000 in
theorem lawC_long (a : Option Addr) (len cap : Nat) (stop : Nat) (w : World) (hl : len ≤ 9223372036854775807) (h : 65536 < len) :
    Calls Yba.prog 5 #[.slice a len cap, .int .u16 (stop : Int)] w fun e w' => e = .returned (.bool true) ∧ Below w.heap.size w w' := by
  go_enter Yba.func5, Yba.ntmps5
  go_wp2
  go_ret
  exact ⟨rfl, Below.refl _ _⟩

theorem Yba.sz49 : (Yba.prog.info? 49).map (·.size) = some 18 := by kernel_rfl
theorem Yba.sz50 : (Yba.prog.info? 50).map (·.size) = some 12 := by kernel_rfl
theorem range_alloc {w : World} {b off : Nat} {cs : List Value} {ob : Obj} (h : w.rangeAt b off cs) : (w.alloc ob).rangeAt b off cs := fun j v hv => ((Outside.refl [] w).alloc ob).cell (h j v hv) (by simp)

section
variable {ops : Array Oper} {rest : List Oper} {op : Oper} {a : Act} {w : World} {Q : Exit → Act → World → Prop}
theorem wl49 {b o : Nat} {cs : List Value} (ho : op.op = .load 49 (.tmp 97)) (hg : op.guard = none) (hc : w.rangeAt b o cs) (hx : a.eval (.tmp 97) = .pointer (some ⟨b, o, none⟩)) (hi : (Yba.prog.info? 49).map (·.size) = some cs.length)
    (h : wpList Yba.prog ops Q rest (a.put op.dst (.agg cs.toArray)) w) : wpList Yba.prog ops Q (op :: rest) a w := wpList_load_mid hg 49 _ ho b o hx cs _ hc Yba.underlying49 rfl hi h
theorem wl50 {b o : Nat} {cs : List Value} (ho : op.op = .load 50 (.tmp 101)) (hg : op.guard = none) (hc : w.rangeAt b o cs) (hx : a.eval (.tmp 101) = .pointer (some ⟨b, o, none⟩)) (hi : (Yba.prog.info? 50).map (·.size) = some cs.length)
    (h : wpList Yba.prog ops Q rest (a.put op.dst (.agg cs.toArray)) w) : wpList Yba.prog ops Q (op :: rest) a w := wpList_load_mid hg 50 _ ho b o hx cs _ hc Yba.underlying50 rfl hi h
theorem ws49 {c c' : Array Value} {b : Nat} (ho : op.op = .store 49 (.tmp 12) (.tmp 98)) (hg : op.guard = none) (h1 : c'.all (·.oneCell') = true) (hb : b = w.heap.size) (hx : a.eval (.tmp 12) = .pointer (some ⟨b, 0, none⟩)) (hy : a.eval (.tmp 98) = .agg c') (hi : (Yba.prog.info? 49).map (·.size) = some c'.size) (hs : c.size = c'.size)
    (h : wpList Yba.prog ops Q rest (a.put op.dst undef) (w.alloc (.cells c' 49))) : wpList Yba.prog ops Q (op :: rest) a (w.alloc (.cells c 49)) := wpList_store_new hg 49 _ _ ho c c' b hb hx hy hi hs h1 h
theorem ws50 {c c' : Array Value} {b : Nat} (ho : op.op = .store 50 (.tmp 13) (.tmp 102)) (hg : op.guard = none) (h1 : c'.all (·.oneCell') = true) (hb : b = w.heap.size) (hx : a.eval (.tmp 13) = .pointer (some ⟨b, 0, none⟩)) (hy : a.eval (.tmp 102) = .agg c') (hi : (Yba.prog.info? 50).map (·.size) = some c'.size) (hs : c.size = c'.size)
    (h : wpList Yba.prog ops Q rest (a.put op.dst undef) (w.alloc (.cells c' 50))) : wpList Yba.prog ops Q (op :: rest) a (w.alloc (.cells c 50)) := wpList_store_new hg 50 _ _ ho c c' b hb hx hy hi hs h1 h
end

/-- n nil pointers. -/
def nils (n : Nat) : Array Value := (List.replicate n (Value.pointer none)).toArray
theorem made_nils (n : Nat) : madeCells (Value.pointer none).cells (n * 1) = nils n := by
  unfold madeCells nils
  apply Array.ext_getElem?
  intro i
  by_cases h : i < n
  · simp [h, Value.cells, Nat.mod_one]
  · simp [h]
theorem mk_full (n : Nat) (hn : n ≤ 65536) (W : World) : (Instr.makeSlice 78 (.int .i64 (n : Int)) (.int .i64 (n : Int))).run Yba.prog W = .ok (.slice (some ⟨W.heap.size, 0, none⟩) n n) (W.alloc (.cells (nils n) 46)) := by
  obtain ⟨i46, hi46, hz0, hz1, hz2⟩ := info_parts Yba.info46
  have := run_make (P := Yba.prog) W 78 46 i46 (.pointer none) Yba.underlying78 hi46 hz0 .i64 .i64 (n : Int) (n : Int) (by omega) (by omega) (by rw [hz2]; omega) (by omega)
  rw [this, hz1, Int.toNat_natCast, made_nils]
theorem mk_room (n : Nat) (hn : n ≤ 65536) (W : World) : (Instr.makeSlice 78 (.int .i64 0) (.int .i64 (n : Int))).run Yba.prog W = .ok (.slice (some ⟨W.heap.size, 0, none⟩) 0 n) (W.alloc (.cells (nils n) 46)) := by
  obtain ⟨i46, hi46, hz0, hz1, hz2⟩ := info_parts Yba.info46
  have := run_make (P := Yba.prog) W 78 46 i46 (.pointer none) Yba.underlying78 hi46 hz0 .i64 .i64 0 (n : Int) (by omega) (by omega) (by rw [hz2]; omega) (by omega)
  rw [this, hz1, Int.toNat_natCast, made_nils]
  rfl

/-- The list of the j-th item. -/
def keyOf (cv : Nat → Bool) (ls : Nat → Nat) (j : Nat) : Nat := if cv j = true then ls j % 9 else 9 + ls j % 6
theorem keyOf_lt (cv : Nat → Bool) (ls : Nat → Nat) (j : Nat) : keyOf cv ls j < 15 := by
  unfold keyOf
  split <;> omega

theorem g1_key (cv : Nat → Bool) (ls : Nat → Nat) (i : Nat) : g1 (keyOf cv ls) i = cv i := by
  unfold g1 keyOf
  cases cv i
  · simp
  · simp; omega
theorem g2_key (cv : Nat → Bool) (ls : Nat → Nat) (i : Nat) : g2 (keyOf cv ls) i = !cv i := by
  unfold g2 keyOf
  cases cv i
  · simp
  · simp; omega

/-- The items, as they lie. -/
def Src (w : World) (a : Option Addr) (len : Nat) (cv : Nat → Bool) (ls : Nat → Nat) : Prop :=
  0 < len → ∃ b off, a = some ⟨b, off, none⟩ ∧ b < w.heap.size ∧ ∀ j, j < len → ls j < 256 ∧ w.cell? ⟨b, off + j * 2, none⟩ = some (.bool (cv j)) ∧ w.cell? ⟨b, off + j * 2 + 1, none⟩ = some (.int .u8 (ls j : Int))

def q0 : Array Value := #[.pointer none, .pointer none, .pointer none, .pointer none, .pointer none, .pointer none, .pointer none, .pointer none, .pointer none, .pointer none, .pointer none, .pointer none, .pointer none, .pointer none, .pointer none, .pointer none, .pointer none, .pointer none, .pointer none, .pointer none, .pointer none, .pointer none, .pointer none, .pointer none, .pointer none, .pointer none, .pointer none, .pointer none, .pointer none, .pointer none, .int .i64 0, .int .i64 0, .int .i64 0, .int .i64 0, .int .i64 0, .int .i64 0, .slice none 0 0, .int .u64 0, .int .u64 0, .int .u8 0, .slice none 0 0, .int .i64 0]
theorem q0_eq (S : Nat) (key : Nat → Nat) : (qc S key 0).toArray = q0 := rfl
theorem wsc_zero (S n : Nat) : (wsc S n 0).toArray = nils n := by
  unfold wsc nils
  congr 1
  apply List.ext_getElem?
  intro i
  by_cases h : i < n
  · simp [h]
  · simp [h]
theorem fill_start (w : World) (n : Nat) (key : Nat → Nat) : Fill w (((w.alloc (.cells #[.int .i64 (n : Int)] 3)).alloc (.cells q0 60)).alloc (.cells (nils n) 46)) (w.heap.size + 3) n 0 key := by
  refine ⟨?_, ?_, ?_, fun i hi => absurd hi (Nat.not_lt_zero _), by simp, (((Outside.refl [] w).alloc _).alloc _).alloc _⟩
  · exact (((Outside.refl [] _).alloc _).alloc _).obj (heap_alloc_new w _) (by simp)
  · rw [q0_eq]
    have e := heap_alloc_new (w.alloc (.cells #[.int .i64 (n : Int)] 3)) (.cells q0 60)
    rw [World.size_alloc] at e
    exact ((Outside.refl [] _).alloc _).obj e (by simp)
  · rw [wsc_zero]
    have e := heap_alloc_new ((w.alloc (.cells #[.int .i64 (n : Int)] 3)).alloc (.cells q0 60)) (.cells (nils n) 46)
    rw [World.size_alloc, World.size_alloc] at e
    exact e

theorem kept_nb {w w6 : World} {n C : Nat} {key : Nat → Nat} {o : Nat → Option Addr} (h : Kept w w6 (w.heap.size + 3) n C key o) : w6.cell? ⟨w.heap.size, 0, none⟩ = some (.int .i64 (n : Int)) := by
  have e := cell_of_row w6 _ 0 _ 3 (0, 0) h.nb
  simpa using e

theorem range_drew {w : World} {b off : Nat} {cs : List Value} (h : w.rangeAt b off cs) (n : Nat) : (w.drewN n).rangeAt b off cs := fun j v hv => ((Outside.refl [] w).drewN n).cell (h j v hv) (by simp)
theorem below_of_out {w w' : World} (h : Outside [] w w') : Below w.heap.size w w' := h.below (Below.refl _ w) (Nat.le_refl _) (by simp)
theorem wantOf_le (n limit : Nat) : wantOf n limit ≤ n := by
  unfold wantOf
  split <;> omega
theorem aft_got {w w6 : World} {S n C : Nat} {key : Nat → Nat} {o : Nat → Option Addr} {ao : Option Addr} {cap : Nat} {gs : List Nat} {LB lim : Nat} {aoG : Option Addr} {capG : Nat} {all : List Nat} {W : Nat} (h : Aft w w6 S n C key o ao cap gs LB lim aoG capG ((all.take W).map (bk S))) (hl : all.length = n) (hW : W ≤ n) :
    w6.cell? ⟨LB + 1, 0, none⟩ = some (.slice aoG W capG) := by
  rw [cell_of_row w6 _ _ _ 78 (0, 0) h.got.1]
  have : ((all.take W).map (bk S)).length = W := by simp; omega
  rw [this]
  rfl
theorem Slc.read1 {w : World} {ao : Option Addr} {n cap : Nat} {gs : List Nat} {i : Nat} (h : Slc w 46 1 ao n cap (pvs gs)) (hi : i < n) : ∃ g off, ao = some ⟨g, off, none⟩ ∧ w.cell? ⟨g, off + i, none⟩ = (gs[i]?).map pv := by
  have h2 := h.2.1
  obtain ⟨g, off, cur, rfl, _⟩ := h.at_ (by omega)
  refine ⟨g, off, rfl, ?_⟩
  rw [h.cell (by omega) i (by omega)]
  simp [pvs]
theorem aft_both {w w6 : World} {S n C : Nat} {key : Nat → Nat} {o : Nat → Option Addr} {ao : Option Addr} {cap : Nat} {LB lim : Nat} {aoG : Option Addr} {capG : Nat} {all : List Nat} {W i : Nat} (h : Aft w w6 S n C key o ao cap all LB lim aoG capG ((all.take W).map (bk S))) (hl : all.length = n) (hW : W ≤ n) (hi : i < W) :
    ∃ x gG oG gE oE, aoG = some ⟨gG, oG, none⟩ ∧ ao = some ⟨gE, oE, none⟩ ∧ w6.cell? ⟨gG, oG + i, none⟩ = some (.pointer (some ⟨x, 0, none⟩)) ∧ w6.cell? ⟨gE, oE + i, none⟩ = some (.pointer (some ⟨x, 0, none⟩)) := by
  have hln : ((all.take W).map (bk S)).length = W := by simp; omega
  obtain ⟨gG, oG, e1, e2⟩ := Slc.read1 (i := i) h.got.2 (by omega)
  obtain ⟨gE, oE, e3, e4⟩ := Slc.read1 (i := i) h.slc (by omega)
  have hia : i < all.length := by omega
  refine ⟨bk S all[i], gG, oG, gE, oE, e1, e3, ?_, ?_⟩
  · rw [e2]
    simp [pv, hi, hia]
  · rw [e4]
    simp [pv, hia]

set_option maxRecDepth 100000 in
set_option maxHeartbeats 4000000 in
theorem lawC_short (a : Option Addr) (len cap : Nat) (stop : Nat) (w : World) (hl : len ≤ 65536) (hst : stop < 65536) (cv : Nat → Bool) (ls : Nat → Nat) (hsrc : Src w a len cv ls) :
    Calls Yba.prog 5 #[.slice a len cap, .int .u16 (stop : Int)] w fun e w' => e = .returned (.bool true) ∧ Below w.heap.size w w' := by
  obtain ⟨i46, hi46, hz0, hz1, hz2⟩ := info_parts Yba.info46
  have HSRC := hide hsrc
  clear hsrc
  have hmk := mk_full len hl
  go_enter Yba.func5, Yba.ntmps5
  go_wp2
  go_loopw [35] (fun iv wr => ∃ k : Nat, k ≤ len ∧ iv = .int .i64 (k : Int) ∧ Fill w wr (w.heap.size + 3) len k (keyOf cv ls)) (fun iv _ => len - (intOf iv).toNat)
  case atStart =>
    exact ⟨0, Nat.zero_le _, rfl, fill_start w len _⟩
  case round =>
    obtain ⟨k, hk, rfl, hfill⟩ := hrel
    have HF := hide hfill
    have hkey := keyOf_lt cv ls k
    have hsz : w.heap.size + 1 + 1 < wr.heap.size := by have := hfill.size; omega
    have hsz1 : w.heap.size + 1 < wr.heap.size := by omega
    have hsz2 : w.heap.size < wr.heap.size := by omega
    clear hfill hmk
    by_cases hlt : k < len
    ·
      obtain ⟨b, off, rfl, hb, hcs⟩ := HSRC.out (by omega)
      obtain ⟨hls, x0, x1⟩ := hcs k hlt
      have y0 := HF.out.out.cell x0 (by simp)
      have y1 := HF.out.out.cell x1 (by simp)
      have hws : wr.cell? ⟨w.heap.size + 1 + 1, k, none⟩ = some (.pointer none) := by
        have e := cell_of_row wr _ k _ 46 (0, 0) HF.out.ws
        rw [show w.heap.size + 3 - 1 = w.heap.size + 1 + 1 by omega] at e
        rw [e]
        simp [wsc, hlt]
      have hwf : wr.frozen? ⟨w.heap.size + 1 + 1, k, none⟩ = false := frozen_of_row wr _ k _ 46 HF.out.ws
      have hes : bk (w.heap.size + 3) k = wr.heap.size + 1 := by rw [HF.out.size]; simp [bk]
      have HES := hide hes
      have hbw : b < wr.heap.size := by omega
      have hm9 : Int.tmod (ls k : Int) 9 = ((ls k % 9 : Nat) : Int) := (Int.ofNat_tmod (ls k) 9).symm
      have hm6 : Int.tmod (ls k : Int) 6 = ((ls k % 6 : Nat) : Int) := (Int.ofNat_tmod (ls k) 6).symm
      clear x0 x1 hcs hes
      go_upto_if 50 with fail
      go_cut [11] (fun l wc => l = .pointer (some ⟨w.heap.size + 1, keyOf cv ls k * 2, none⟩) ∧ Mid w wc (w.heap.size + 3) len k (keyOf cv ls))
      case first =>
        clear hsz hsz1 hbw y0 y1 hws hwf
        cases hcv : cv k with
        | true =>
          have HK : Hid (keyOf cv ls k = ls k % 9) := by show _ = _; unfold keyOf; rw [if_pos hcv]
          have hr := Nat.mod_lt (ls k) (show 0 < 9 by omega)
          generalize ls k % 9 = m at *
          clear hkey hcv
          go_wp2_with fail
          go_quiet (fail)
          go_wp2
          go_meet
          case rel =>
            refine ⟨by rw [HK.out], ?_⟩
            have e := (HF.out.mid (by omega) rfl hlt (.cells #[.bool true, .int .u8 (ls k : Int)] 118)).drewN nq
            rw [HES.out] at e
            exact e
        | false =>
          have HK : Hid (keyOf cv ls k = 9 + ls k % 6) := by show _ = _; unfold keyOf; rw [if_neg (by simp [hcv])]
          have hr := Nat.mod_lt (ls k) (show 0 < 6 by omega)
          generalize ls k % 6 = m at *
          clear hkey hcv
          go_wp2_with fail
          go_quiet (fail)
          go_wp2
          go_meet
          case rel =>
            refine ⟨by rw [HK.out]; congr 3; omega, ?_⟩
            have e := (HF.out.mid (by omega) rfl hlt (.cells #[.bool false, .int .u8 (ls k : Int)] 118)).drewN nq
            rw [HES.out] at e
            exact e
      case rest =>
        obtain ⟨rfl, hmid⟩ := hcut
        have HM := hide hmid
        obtain ⟨q0, q1, q2, q3⟩ := hmid.reads hkey
        rw [show w.heap.size + 3 - 2 = w.heap.size + 1 by omega] at q0 q1 q2 q3
        have hsc : wr.heap.size + 1 < wc.heap.size := by have := hmid.size; have := HF.out.size; omega
        have hnw := hmid.new
        rw [HES.out] at hnw
        have n6 : wc.cell? ⟨wr.heap.size + 1, 6, none⟩ = some (.pointer none) := by rw [cell_of_row wc _ _ _ 99 (0, 0) hnw]; rfl
        have f6 : wc.frozen? ⟨wr.heap.size + 1, 6, none⟩ = false := frozen_of_row wc _ _ _ 99 hnw
        have HLA : Hid (la (kp (keyOf cv ls) (keyOf cv ls k)) k = la (kp (keyOf cv ls) (keyOf cv ls k)) k) := rfl
        clear hmid hnw hm9 hm6 y0 y1 hws hwf hbw
        generalize hc : keyOf cv ls k = c at q0 q1 q2 q3 hkey
        have HC := hide hc
        clear hc
        cases hla : la (kp (keyOf cv ls) c) k with
        | none =>
          rw [hla] at q1
          have HN := hide hla
          unfold pt at q0
          have q1' : wc.cell? ⟨w.heap.size + 1, c * 2 + 1, none⟩ = some (.pointer none) := q1
          clear hla q1 HLA
          obtain ⟨wo, rfl⟩ : ∃ wo : World, wo = wc := ⟨_, rfl⟩
          go_wp2
          go_roundw
          case rel =>
            refine ⟨k + 1, by omega, by go_num, ?_⟩
            have e := HM.out.first (by omega) rfl (by rw [HC.out]; exact hkey) (by rw [HC.out]; exact HN.out)
            rw [HES.out, HC.out] at e
            exact e
          case measure => simp [intOf]; omega
        | some j =>
          rw [hla] at q1
          have HN := hide hla
          obtain ⟨hj, hpj, _⟩ := la_some hla
          obtain ⟨pj, hwj⟩ := HM.out.wt j hj
          have q1' : wc.cell? ⟨w.heap.size + 1, c * 2 + 1, none⟩ = some (.pointer (some ⟨bk (w.heap.size + 3) j, 0, none⟩)) := q1
          obtain ⟨nv, n7⟩ : ∃ o, wc.cell? ⟨bk (w.heap.size + 3) j, 7, none⟩ = some (.pointer o) := ⟨_, by rw [cell_of_row wc _ _ _ 99 (0, 0) hwj]; rfl⟩
          have f7 : wc.frozen? ⟨bk (w.heap.size + 3) j, 7, none⟩ = false := frozen_of_row wc _ _ _ 99 hwj
          have hlj := lt_of_block hwj
          have hne1 : bk (w.heap.size + 3) j ≠ w.heap.size + 1 := by simp [bk]; omega
          have hne2 : bk (w.heap.size + 3) j ≠ wr.heap.size + 1 := by rw [← HES.out]; simp [bk]; omega
          have hne3 : w.heap.size + 1 ≠ wr.heap.size + 1 := by omega
          have HBJ : Hid (bk (w.heap.size + 3) j = bk (w.heap.size + 3) j) := rfl
          have HF2 := hide (HM.out.next (by omega) rfl (by rw [HC.out]; exact hkey) (by rw [HC.out]; exact hla))
          rw [HES.out, HC.out] at HF2
          clear hla q1 HLA hwj hpj
          generalize bk (w.heap.size + 3) j = bj at *
          obtain ⟨wo, rfl⟩ : ∃ wo : World, wo = wc := ⟨_, rfl⟩
          go_wp2
          go_roundw
          case rel =>
            refine ⟨k + 1, by omega, by go_num, ?_⟩
            exact HF2.out
          case measure => simp [intOf]; omega
    · obtain rfl : k = len := by omega
      have hmk := mk_room k hl
      obtain ⟨o, hq⟩ : ∃ o : Nat → Option Addr, ∀ x, x < 30 → wr.cell? ⟨w.heap.size + 1, x, none⟩ = some (.pointer (o x)) := ⟨_, HF.out.q_cell⟩
      have hk0 := HF.out.kept o hq
      have r1 : wr.rangeAt (w.heap.size + 1) 0 (oc o 0 18).toList := oc_range (fun x hx => by rw [Nat.zero_add]; exact hq x (by omega))
      have r2 : wr.rangeAt (w.heap.size + 1) 18 (oc o 18 12).toList := oc_range (fun x hx => hq (18 + x) (by omega))
      have HR1 := hide r1
      have HR2 := hide r2
      have HL1 := hide (oc_len o 0 18)
      have HL2 := hide (oc_len o 18 12)
      have HO1 := hide (oc_one o 0 18)
      have HO2 := hide (oc_one o 18 12)
      generalize hcs1 : oc o 0 18 = cs1 at *
      generalize hcs2 : oc o 18 12 = cs2 at *
      have HK := hide hk0
      have hes : wr.heap.size = w.heap.size + 3 + 2 * k := HF.out.size
      have HC := hide hes
      have c0 : wr.cell? ⟨w.heap.size, 0, none⟩ = some (.int .i64 (k : Int)) := by
        have e := cell_of_row wr _ 0 _ 3 (0, 0) HF.out.nb
        simpa using e
      clear hq hes HF hk0 r1 r2 hcs1 hcs2
      obtain ⟨wo, rfl⟩ : ∃ wo : World, wo = wr := ⟨_, rfl⟩
      go_wp2_with (first
        | ((with_reducible apply wl49); (case ho => rfl); go_must ((case hg => rfl); (case hc => exact HR1.out); (case hx => simp [Act.eval]); (case hi => rw [Array.length_toList, HL1.out]; exact Yba.sz49)))
        | ((with_reducible apply ws49); (case ho => rfl); go_must ((case hg => rfl); (case h1 => exact HO1.out); (case hb => exact (rfl : wo.heap.size = wo.heap.size)); (case hx => simp [Act.eval]); (case hy => simp [Act.eval]); (case hi => rw [HL1.out]; exact Yba.sz49); (case hs => rw [HL1.out]; rfl)))
        | ((with_reducible apply wl50); (case ho => rfl); go_must ((case hg => rfl); (case hc => exact (range_alloc HR2.out)); (case hx => simp [Act.eval]); (case hi => rw [Array.length_toList, HL2.out]; exact Yba.sz50)))
        | ((with_reducible apply ws50); (case ho => rfl); go_must ((case hg => rfl); (case h1 => exact HO2.out); (case hb => exact (show wo.heap.size + 1 = (wo.alloc (.cells cs1 49)).heap.size by simp)); (case hx => simp [Act.eval]); (case hy => simp [Act.eval]); (case hi => rw [HL2.out]; exact Yba.sz50); (case hs => rw [HL2.out]; rfl))))
      have HX0 : Hid (Exp w (((wo.alloc (.cells cs1 49)).alloc (.cells cs2 50)).alloc (.cells (nils k) 46)) (w.heap.size + 3) k wo.heap.size (keyOf cv ls) o (some ⟨wo.heap.size + 1 + 1, 0, none⟩) k []) := by
        refine ⟨HK.out _, ?_, fun g hg => ?_⟩
        · have e := Slc.made ((wo.alloc (.cells cs1 49)).alloc (.cells cs2 50)) 46 1 (nils k) 0 k (Nat.zero_le _) (by unfold maxLen; omega) (by simp [nils])
          simpa [pvs] using e
        · simp only [ownB] at hg
          split at hg
          · simp at hg
          · simp at hg; omega
      have hsC : wo.heap.size = wo.heap.size := rfl
      clear hmk c0 HR1 HR2 HL1 HL2 HO1 HO2 HK hsC
      go_loopw [14, 15] (fun v iv wx => ∃ (i : Nat) (ao : Option Addr) (cp : Nat), i ≤ k ∧ v = .slice ao (idx (g1 (keyOf cv ls)) 0 i).length cp ∧ iv = .int .i64 (i : Int) ∧ Exp w wx (w.heap.size + 3) k wo.heap.size (keyOf cv ls) o ao cp (idx (g1 (keyOf cv ls)) 0 i)) (fun _ iv _ => k - (intOf iv).toNat)
      case atStart => exact ⟨0, _, _, Nat.zero_le _, rfl, rfl, HX0.out⟩
      case round =>
        obtain ⟨i, ao, cp, hi, rfl, rfl, hx⟩ := hrel
        have HX := hide hx
        have c0 : wr.cell? ⟨w.heap.size, 0, none⟩ = some (.int .i64 (k : Int)) := by
          have e := cell_of_row wr _ 0 _ 3 (0, 0) hx.kept.nb
          simpa using e
        have hLl := idx_len (g1 (keyOf cv ls)) 0 i
        have HSN := hide (@idx_snoc (g1 (keyOf cv ls)) i)
        have hbw : w.heap.size + 1 + 1 < wr.heap.size := by have := hx.kept.sz; have := HC.out; omega
        clear hx HX0
        by_cases hik : i < k
        ·
          obtain ⟨b, off, rfl, hb, hcs⟩ := HSRC.out (by omega)
          obtain ⟨hls, x0, x1⟩ := hcs i hik
          have y0 := HX.out.kept.out.cell x0 (by simp)
          have z0 := HX.out.kept.ws i hik
          rw [show w.heap.size + 3 - 1 = w.heap.size + 1 + 1 by omega] at z0
          unfold pv at z0
          have HG := hide (g1_key cv ls i)
          clear hcs x0 x1 hls
          generalize hL : idx (g1 (keyOf cv ls)) 0 i = gs at *
          obtain ⟨wo2, rfl⟩ : ∃ wo : World, wo = wr := ⟨_, rfl⟩
          cases hcv : cv i with
          | true =>
            rw [hcv] at y0
            have HG' : Hid (idx (g1 (keyOf cv ls)) 0 (i + 1) = gs ++ [i]) := by show _ = _; rw [HSN.out, HG.out, hcv]; simp
            clear hcv HG HSN hL
            have tok : True := trivial
            go_wp2_with (at_builtin; go_must (have _t := tok; refine wpList_append_cut _ rfl (.tmp 115) (.tmp 120) 78 rfl 46 i46 (.pointer none) 1 8 Yba.underlying78 hi46 hz0 hz1 hz2 rfl (by decide) ao gs.length cp (pvs (gs.map (bk (w.heap.size + 3)))) rfl (slc_alloc HX.out.slc _) ⟨wo2.heap.size, 0, none⟩ 1 1 [pv (bk (w.heap.size + 3) i)] rfl rfl (pv_news _ _ rfl) (pvs_one [_]) (by decide) (by unfold maxLen; omega) (by omega) ?_; intro ao' cap' w2 hs2 ho2 how2; have HN := hide (HX.out.next (by omega) rfl HC.out _ hs2 ho2 how2); clear hs2 ho2 how2 tok _t))
            go_roundw
            case rel =>
              refine ⟨i + 1, ao', cap', by omega, ?_, by go_num, ?_⟩
              · rw [HG'.out]; simp
              · rw [HG'.out]; exact HN.out
            case measure => simp [intOf]; omega
          | false =>
            rw [hcv] at y0
            have HG' : Hid (idx (g1 (keyOf cv ls)) 0 (i + 1) = gs) := by show _ = _; rw [HSN.out, HG.out, hcv]; simp
            clear hcv HG HSN hL
            go_wp2
            go_roundw
            case rel =>
              refine ⟨i + 1, ao, cp, by omega, ?_, by go_num, ?_⟩
              · rw [HG'.out]
              · rw [HG'.out]; exact HX.out
            case measure => simp [intOf]; omega
        · obtain rfl : i = k := by omega
          have HX1 : Hid (Exp w wr (w.heap.size + 3) i wo.heap.size (keyOf cv ls) o ao cp (idx (g1 (keyOf cv ls)) 0 i ++ idx (g2 (keyOf cv ls)) 0 0)) := by
            show Exp _ _ _ _ _ _ _ _ _ _
            simpa [idx] using HX.out
          obtain ⟨wo2, rfl⟩ : ∃ wo : World, wo = wr := ⟨_, rfl⟩
          clear HSN
          go_wp2
          go_loopw [14, 16] (fun v iv wx => ∃ (m : Nat) (ao : Option Addr) (cp : Nat), m ≤ i ∧ v = .slice ao (idx (g1 (keyOf cv ls)) 0 i ++ idx (g2 (keyOf cv ls)) 0 m).length cp ∧ iv = .int .i64 (m : Int) ∧ Exp w wx (w.heap.size + 3) i wo.heap.size (keyOf cv ls) o ao cp (idx (g1 (keyOf cv ls)) 0 i ++ idx (g2 (keyOf cv ls)) 0 m)) (fun _ iv _ => i - (intOf iv).toNat)
          case atStart => exact ⟨0, ao, cp, Nat.zero_le _, by simp [idx], rfl, HX1.out⟩
          case round =>
            clear HX1 HX c0 hbw
            obtain ⟨m, ao1, cp1, hm, rfl, rfl, hx⟩ := hrel
            have HX := hide hx
            have c0 : wr.cell? ⟨w.heap.size, 0, none⟩ = some (.int .i64 (i : Int)) := by
              have e := cell_of_row wr _ 0 _ 3 (0, 0) hx.kept.nb
              simpa using e
            have hLl2 := idx_len (g2 (keyOf cv ls)) 0 m
            have HSN := hide (@idx_snoc (g2 (keyOf cv ls)) m)
            have hbw : w.heap.size + 1 + 1 < wr.heap.size := by have := hx.kept.sz; have := HC.out; omega
            clear hx
            by_cases hmi : m < i
            ·
              obtain ⟨b, off, rfl, hb, hcs⟩ := HSRC.out (by omega)
              obtain ⟨hls, x0, x1⟩ := hcs m hmi
              have y0 := HX.out.kept.out.cell x0 (by simp)
              have z0 := HX.out.kept.ws m hmi
              rw [show w.heap.size + 3 - 1 = w.heap.size + 1 + 1 by omega] at z0
              unfold pv at z0
              have HG := hide (g2_key cv ls m)
              clear hcs x0 x1 hls
              have hgl : (idx (g1 (keyOf cv ls)) 0 i ++ idx (g2 (keyOf cv ls)) 0 m).length ≤ 200000 := by simp; omega
              obtain ⟨gs, hgs⟩ : ∃ gs, idx (g1 (keyOf cv ls)) 0 i ++ idx (g2 (keyOf cv ls)) 0 m = gs := ⟨_, rfl⟩
              have HGS := hide hgs
              rw [hgs] at HX hgl
              rw [hgs]
              clear hgs
              obtain ⟨wo3, rfl⟩ : ∃ wo : World, wo = wr := ⟨_, rfl⟩
              cases hcv : cv m with
              | true =>
                rw [hcv] at y0
                have HG' : Hid (idx (g1 (keyOf cv ls)) 0 i ++ idx (g2 (keyOf cv ls)) 0 (m + 1) = gs) := by show _ = _; rw [HSN.out, HG.out, hcv, ← HGS.out]; simp
                clear hcv HG HSN HGS
                go_wp2
                go_roundw
                case rel =>
                  refine ⟨m + 1, ao1, cp1, by omega, ?_, by go_num, ?_⟩
                  · rw [HG'.out]
                  · rw [HG'.out]; exact HX.out
                case measure => simp [intOf]; omega
              | false =>
                rw [hcv] at y0
                have HG' : Hid (idx (g1 (keyOf cv ls)) 0 i ++ idx (g2 (keyOf cv ls)) 0 (m + 1) = gs ++ [m]) := by show _ = _; rw [HSN.out, HG.out, hcv, ← HGS.out]; simp
                clear hcv HG HSN HGS
                have tok : True := trivial
                go_wp2_with (at_builtin; go_must (have _t := tok; refine wpList_append_cut _ rfl (.tmp 133) (.tmp 138) 78 rfl 46 i46 (.pointer none) 1 8 Yba.underlying78 hi46 hz0 hz1 hz2 rfl (by decide) ao1 gs.length cp1 (pvs (gs.map (bk (w.heap.size + 3)))) rfl (slc_alloc HX.out.slc _) ⟨wo3.heap.size, 0, none⟩ 1 1 [pv (bk (w.heap.size + 3) m)] rfl rfl (pv_news _ _ rfl) (pvs_one [_]) (by decide) (by unfold maxLen; omega) (by omega) ?_; intro ao' cap' w2 hs2 ho2 how2; have HN := hide (HX.out.next (by omega) rfl HC.out _ hs2 ho2 how2); clear hs2 ho2 how2 tok _t))
                go_roundw
                case rel =>
                  refine ⟨m + 1, ao', cap', by omega, ?_, by go_num, ?_⟩
                  · rw [HG'.out]; simp
                  · rw [HG'.out]; exact HN.out
                case measure => simp [intOf]; omega
            · obtain rfl : m = i := by omega
              have hal := allOf_len (keyOf cv ls) m
              unfold allOf at hal
              rw [hal]
              clear hal
              obtain ⟨lim, hlim⟩ : ∃ lim, lim = stop % (m + 2) := ⟨_, rfl⟩
              have hrem : Int.tmod (stop : Int) ((m : Int) + 2) = (lim : Int) := by
                rw [hlim]
                exact (Int.ofNat_tmod stop (m + 2)).symm
              have hl1 : lim ≤ m + 1 := by have := Nat.mod_lt stop (show 0 < m + 2 by omega); omega
              have hnz : ((m : Int) + 2 == 0) = false := by rw [beq_eq_false_iff_ne]; omega
              have hsv := HX.out.serve (by omega) rfl HC.out (keyOf_lt cv ls) hl lim hl1
              unfold atServe at hsv
              rw [show w.heap.size + 3 - 2 = w.heap.size + 1 by omega, show w.heap.size + 3 - 3 = w.heap.size by omega] at hsv
              have HSV := hide hsv
              have hbz : w.heap.size < wr.heap.size := by omega
              clear hsv hlim HSN hLl hLl2 HSRC
              obtain ⟨wy, rfl⟩ : ∃ wo : World, wo = wr := ⟨_, rfl⟩
              have tok : True := trivial
              go_upto_if 154 with (first
                | (go_at_call 22; go_must (refine (served_mk _ _).mono ?_; rintro e w5 ⟨rfl, rfl⟩))
                | (go_at_call 39; have _t := tok; go_must (refine (unhide HSV).mono ?_; rintro e w6 ⟨rfl, hs6⟩; obtain ⟨aoG, capG, haft⟩ := HX.out.after (by omega) rfl HC.out lim hs6; have c6 : w6.cell? ⟨w.heap.size, 0, none⟩ = some (.int .i64 (m : Int)) := kept_nb haft.kept; have cl6 := haft.lim; have HA := hide haft; clear hs6 haft c0 tok _t)))
              clear hrem hnz HSV HX
              go_cut [20, 21] (fun v _ wc => v = .int .i64 (wantOf m lim : Int) ∧ wc = w6)
              case first =>
                by_cases h1 : lim = m + 1
                · have e : wantOf m lim = m := by unfold wantOf; rw [if_pos h1]
                  have t0 : ((lim : Int) == (m : Int) + 1) = true := by rw [beq_iff_eq]; omega
                  have HE := hide e
                  clear h1 e
                  go_wp2
                  go_meet
                  case rel => exact ⟨by rw [HE.out], rfl⟩
                · have t0 : ((lim : Int) == (m : Int) + 1) = false := by rw [beq_eq_false_iff_ne]; omega
                  by_cases h2 : lim < 1
                  · by_cases h3 : 1 < m
                    · have HE : Hid (wantOf m lim = 1) := by show _ = _; unfold wantOf; rw [if_neg h1]; omega
                      clear h1
                      go_wp2
                      go_meet
                      case rel => exact ⟨by rw [HE.out]; rfl, rfl⟩
                    · have HE : Hid (wantOf m lim = m) := by show _ = _; unfold wantOf; rw [if_neg h1]; omega
                      clear h1
                      go_wp2
                      go_meet
                      case rel => exact ⟨by rw [HE.out], rfl⟩
                  · by_cases h3 : lim < m
                    · have HE : Hid (wantOf m lim = lim) := by show _ = _; unfold wantOf; rw [if_neg h1]; omega
                      clear h1
                      go_wp2
                      go_meet
                      case rel => exact ⟨by rw [HE.out], rfl⟩
                    · have HE : Hid (wantOf m lim = m) := by show _ = _; unfold wantOf; rw [if_neg h1]; omega
                      clear h1
                      go_wp2
                      go_meet
                      case rel => exact ⟨by rw [HE.out], rfl⟩
              case rest =>
                obtain ⟨rfl, rfl⟩ := hcut
                have hW : wantOf m lim ≤ m := wantOf_le m lim
                have HA2 := HA
                have cG := aft_got HA.out (allOf_len _ _) hW
                obtain ⟨W, hWd⟩ : ∃ W, wantOf m lim = W := ⟨_, rfl⟩
                rw [hWd] at HA cG hW
                rw [hWd]
                clear HA2 hWd cl6 hl1
                go_wp2
                go_loopw [22] (fun iv wx => ∃ i : Nat, i ≤ W ∧ iv = .int .i64 (i : Int) ∧ Outside [] wc wx) (fun iv _ => W - (intOf iv).toNat)
                case atStart => exact ⟨0, Nat.zero_le _, rfl, Outside.refl _ _⟩
                case round =>
                  obtain ⟨i, hi, rfl, ho⟩ := hrel
                  have HB := hide (HA.out.outside (by omega) rfl HC.out ho)
                  have HO := hide ho
                  have cG' := ho.cell cG (by simp)
                  clear ho
                  by_cases hiW : i < W
                  · obtain ⟨x, gG, oG, gE, oE, rfl, rfl, k1, k2⟩ := aft_both HB.out (allOf_len _ _) hW hiW
                    have him : i < m := by omega
                    have e46 := neq46 (some ⟨x, 0, none⟩)
                    go_wp2_with fail
                    go_quiet (fail)
                    go_wp2
                    go_roundw
                    case rel => exact ⟨i + 1, by omega, by go_num, HO.out.drewN nq⟩
                    case measure => simp [intOf]; omega
                  · obtain rfl : i = W := by omega
                    have q0 := HB.out.kept.q
                    have k1 := HB.out.kept.c1
                    have k2 := HB.out.kept.c2
                    rw [show w.heap.size + 3 - 2 = w.heap.size + 1 by omega] at q0
                    have HR1 : Hid (∀ nq, (wr.drewN nq).rangeAt (w.heap.size + 1) 0 (oc o 0 18).toList) := fun nq => range_drew (oc_range (fun x hx => by rw [Nat.zero_add]; exact q0 x (by omega))) nq
                    have HR2 : Hid (∀ nq, (wr.drewN nq).rangeAt (w.heap.size + 1) 18 (oc o 18 12).toList) := fun nq => range_drew (oc_range (fun x hx => q0 (18 + x) (by omega))) nq
                    have HR3 : Hid (∀ nq, (wr.drewN nq).rangeAt wo.heap.size 0 (oc o 0 18).toList) := fun nq => range_drew (oc_range (fun x hx => by rw [Nat.zero_add]; exact k1 x hx)) nq
                    have HR4 : Hid (∀ nq, (wr.drewN nq).rangeAt (wo.heap.size + 1) 0 (oc o 18 12).toList) := fun nq => range_drew (oc_range (fun x hx => by rw [Nat.zero_add]; exact k2 x hx)) nq
                    have e49 := eq49 o
                    have e50 := eq50 o
                    have HL1 := hide (oc_len o 0 18)
                    have HL2 := hide (oc_len o 18 12)
                    generalize oc o 0 18 = d1 at *
                    generalize oc o 18 12 = d2 at *
                    have gd1 := guard49
                    have gd2 := guard50
                    clear q0 k1 k2
                    go_wp2_with fail
                    refine wp_region_quiet_lit (by kernel_rfl) (by kernel_rfl) ?_
                    go_big_quiet_step (fail)
                    go_big_quiet_step (fail)
                    go_big_quiet_step (fail)
                    go_big_quiet_want
                    refine quiet_load_as (c := d1) (b := w.heap.size + 1) (off := 0) (by rintro w' ⟨nq, rfl⟩; exact HR1.out nq) (by simp [Act.eval]) Yba.underlying49 rfl (by rw [HL1.out]; exact Yba.sz49) ?_
                    go_big_quiet_op
                    go_big_quiet_on
                    go_big_quiet_want
                    refine quiet_load_as (c := d1) (b := wo.heap.size) (off := 0) (by rintro w' ⟨nq, rfl⟩; exact HR3.out nq) (by simp [Act.eval]) Yba.underlying49 rfl (by rw [HL1.out]; exact Yba.sz49) ?_
                    go_big_quiet_op
                    go_big_quiet_on
                    go_big_quiet_step (fail)
                    go_big_quiet_step (fail)
                    go_big_quiet_step (fail)
                    go_big_quiet_step (fail)
                    go_big_quiet_step (fail)
                    go_big_quiet_want
                    refine quiet_load_as (c := d2) (b := w.heap.size + 1) (off := 18) (by rintro w' ⟨nq, rfl⟩; exact HR2.out nq) (by simp [Act.eval]) Yba.underlying50 rfl (by rw [HL2.out]; exact Yba.sz50) ?_
                    go_big_quiet_op
                    go_big_quiet_on
                    go_big_quiet_want
                    refine quiet_load_as (c := d2) (b := wo.heap.size + 1) (off := 0) (by rintro w' ⟨nq, rfl⟩; exact HR4.out nq) (by simp [Act.eval]) Yba.underlying50 rfl (by rw [HL2.out]; exact Yba.sz50) ?_
                    go_big_quiet_op
                    go_big_quiet_on
                    go_big_quiet_step (fail)
                    go_big_quiet_step (fail)
                    refine wpQuiet_nil ?_
                    rintro w7 ⟨nq, rfl⟩
                    have HB7 := hide (HB.out.outside (by omega) rfl HC.out ((Outside.refl [] wr).drewN nq))
                    clear HB HO cG' e49 e50 gd1 gd2 HR1 HR2 HR3 HR4
                    generalize wr.drewN nq = w7 at *
                    have c7 := kept_nb HB7.out.kept
                    go_wp2
                    go_loopw [23] (fun iv wx => ∃ i : Nat, i ≤ m ∧ iv = .int .i64 (i : Int) ∧ wx = w7) (fun iv _ => m - (intOf iv).toNat)
                    case atStart => exact ⟨0, Nat.zero_le _, rfl, rfl⟩
                    case round =>
                      obtain ⟨j, hj, rfl, rfl⟩ := hrel
                      by_cases hjm : j < m
                      · have z0 := HB7.out.kept.ws j hjm
                        have z1 := HB7.out.kept.sq j hjm
                        rw [show w.heap.size + 3 - 1 = w.heap.size + 1 + 1 by omega] at z0
                        unfold pv at z0
                        generalize bk (w.heap.size + 3) j = bj at *
                        go_wp2
                        go_roundw
                        case rel => exact ⟨j + 1, by omega, by go_num, trivial⟩
                        case measure => simp [intOf]; omega
                      · obtain rfl : j = m := by omega
                        go_wp2
                        go_ret
                        exact ⟨rfl, below_of_out HB7.out.kept.out⟩

end Go.Proofs.Ybulkdukm
