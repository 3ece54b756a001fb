/-
  THE WALKS OF 'newCheckedTally' (15), 'zzs6049cfind' (18), 'math/bits.Mul64' (27), 'zzs6049creached' (19) (law C).
-/
import Derived.Test.YbulkdugeCRecord
import Derived.Shelf.Bits.Mul64
namespace Go.Proofs.Ybulkduge
open Go.RowKit
set_option linter.unusedVariables false

/-- An entry's two cells. -/
def ec (e : Ent) : List Value := [.int .u64 (e.1 : Int), .bool e.2]
def flatE (es : List Ent) : List Value := es.flatMap ec
theorem flatE_length (es : List Ent) : (flatE es).length = es.length * 2 := by
  induction es with
  | nil => rfl
  | cons e r ih =>
    simp only [flatE, List.flatMap_cons, List.length_append] at ih ⊢
    rw [ih]
    simp [ec]
    omega
theorem flatE_get (es : List Ent) (i : Nat) (hi : i < es.length) : (flatE es)[i * 2]? = some (.int .u64 ((es[i]).1 : Int)) ∧ (flatE es)[i * 2 + 1]? = some (.bool (es[i]).2) := by
  induction es generalizing i with
  | nil => simp at hi
  | cons e r ih =>
    simp only [flatE, List.flatMap_cons] at ih ⊢
    cases i with
    | zero => simp [ec]
    | succ i =>
      have := ih i (by simpa using hi)
      simp only [ec, List.cons_append, List.nil_append, Nat.succ_mul]
      simpa using this
theorem ent_cells {w : World} {g off n cap : Nat} {es : List Ent} (h : Slc w 62 2 (some ⟨g, off, none⟩) n cap (flatE es)) (hn : es.length = n) (k : Nat) (hk : k < es.length) :
    w.cell? ⟨g, off + k * 2, none⟩ = some (.int .u64 ((es[k]).1 : Int)) ∧ w.cell? ⟨g, off + k * 2 + 1, none⟩ = some (.bool (es[k]).2) := by
  have hc := h.2.1
  have c : ∀ j, j < n * 2 → w.cell? ⟨g, off + j, none⟩ = (flatE es)[j]? := fun j hj => h.cell (by omega) j hj
  obtain ⟨f0, f1⟩ := flatE_get es k hk
  rw [Nat.add_assoc off, c _ (by omega), c _ (by omega)]
  exact ⟨f0, f1⟩

def fndI (es : List Ent) (k : Nat) : Int := match fnd es k with
  | some j => (j : Int)
  | none => -1
theorem fnd_first {es : List Ent} {k j : Nat} (hj : j < es.length) (h : (es[j]).1 = k) (hb : ∀ i, i < j → ∀ e, es[i]? = some e → e.1 ≠ k) : fnd es k = some j := by
  unfold fnd
  rw [List.findIdx?_eq_some_iff_getElem]
  refine ⟨hj, by simp [h], fun i hi => ?_⟩
  simp
  exact hb i hi _ (List.getElem?_eq_getElem (by omega))
theorem fnd_no {es : List Ent} {k : Nat} (hb : ∀ i, i < es.length → ∀ e, es[i]? = some e → e.1 ≠ k) : fnd es k = none := by
  unfold fnd
  rw [List.findIdx?_eq_none_iff]
  intro e he
  obtain ⟨i, hi⟩ := List.getElem?_of_mem he
  simp
  exact hb i (List.getElem?_eq_some_iff.1 hi).1 e hi

set_option maxHeartbeats 1000000 in
theorem find_any (ao : Option Addr) (n cap : Nat) (es : List Ent) (k : Nat) (w : World) (h : Slc w 62 2 ao n cap (flatE es)) (hn : es.length = n) (hb : n ≤ 100000) :
    Calls Yba.prog 18 #[.slice ao n cap, .int .u64 (k : Int)] w fun e w' => e = .returned (.int .i64 (fndI es k)) ∧ w' = w := by
  have HS := hide h
  have HN := hide hn
  clear h hn
  go_enter Yba.func18, Yba.ntmps18
  go_wp2
  go_loopw [5] (fun i wr => ∃ j : Nat, j ≤ n ∧ i = .int .i64 j ∧ wr = w ∧ Hid (∀ i, i < j → ∀ e, es[i]? = some e → e.1 ≠ k)) (fun i _ => n - (intOf i).toNat)
  case atStart => exact ⟨0, Nat.zero_le _, rfl, rfl, fun i hi => absurd hi (Nat.not_lt_zero _)⟩
  case round =>
    obtain ⟨j, hj, rfl, rfl, hno⟩ := hrel
    by_cases hlt : j < n
    · have hjm : j < es.length := by rw [HN.out]; exact hlt
      have hcap := HS.out.2.1
      obtain ⟨g, off, cur, e1, hh, _⟩ := HS.out.at_ (by omega)
      have hlg := lt_of_block hh
      subst e1
      obtain ⟨p0, p1⟩ := ent_cells HS.out HN.out j hjm
      have hget : es[j]? = some es[j] := List.getElem?_eq_getElem hjm
      clear hh
      have HF := hide (fun h => fnd_first (k := k) hjm h hno.out)
      have HG := hide hget
      clear hget
      generalize es[j] = x at *
      by_cases hx : x.1 = k
      · have HX := hide (HF.out hx)
        have hb1 : ((x.1 : Int) == (k : Int)) = true := by simp [hx]
        go_wp2
        go_ret
        exact ⟨by simp only [fndI, HX.out]; rfl, rfl⟩
      · have hb1 : ((x.1 : Int) == (k : Int)) = false := by rw [beq_eq_false_iff_ne]; omega
        have HX := hide hx
        clear hx
        go_wp2
        go_roundw
        case rel =>
          refine ⟨j + 1, by omega, by go_num, by first | rfl | trivial, fun i hi e he => ?_⟩
          by_cases hij : i = j
          · subst hij
            rw [HG.out] at he
            cases he
            exact HX.out
          · exact hno.out i (by omega) e he
        case measure => simp [intOf]; omega
    · have HX := hide (fnd_no (k := k) (es := es) (fun i hi => hno.out i (by rw [HN.out] at hi; omega)))
      go_wp2
      go_ret
      exact ⟨by simp only [fndI, HX.out]; rfl, rfl⟩

set_option maxHeartbeats 1000000 in
theorem mul_any (x y : Nat) (hx : x < 18446744073709551616) (hy : y < 18446744073709551616) (w : World) :
    Calls Yba.prog 27 #[.int .u64 x, .int .u64 y] w fun e w' => e = .returned (.tuple #[.int .u64 ((x * y / 18446744073709551616 : Nat) : Int), .int .u64 ((x * y % 18446744073709551616 : Nat) : Int)]) ∧ w' = w := by
  obtain ⟨bd, bt, bw, hhi⟩ := Lib.mul64_hi x y hx hy
  have ba := Lib.half_mul_le (a := x / 4294967296) (b := y / 4294967296) (by omega) (by omega)
  have bb := Lib.half_mul_le (a := x / 4294967296) (b := y % 4294967296) (by omega) (by omega)
  have bc := Lib.half_mul_le (a := x % 4294967296) (b := y / 4294967296) (by omega) (by omega)
  have ba' : x / 4294967296 * (y / 4294967296) < 18446744073709551616 := by omega
  have bb' : x / 4294967296 * (y % 4294967296) < 18446744073709551616 := by omega
  have bc' : x % 4294967296 * (y / 4294967296) < 18446744073709551616 := by omega
  have bh1 : x / 4294967296 * (y / 4294967296) + (x / 4294967296 * (y % 4294967296) + x % 4294967296 * (y % 4294967296) / 4294967296) / 4294967296 < 18446744073709551616 := by omega
  have bh : x / 4294967296 * (y / 4294967296) + (x / 4294967296 * (y % 4294967296) + x % 4294967296 * (y % 4294967296) / 4294967296) / 4294967296 + ((x / 4294967296 * (y % 4294967296) + x % 4294967296 * (y % 4294967296) / 4294967296) % 4294967296 + x % 4294967296 * (y / 4294967296)) / 4294967296 < 18446744073709551616 := by omega
  go_enter Yba.func27, Yba.ntmps27
  go_wp2
  simp only [Mul64.maskN x hx, Mul64.maskN y hy, Mul64.divN, Mul64.mulN, Mul64.addN, Mul64.wrapN _ bd, Mul64.wrapN _ bb', Mul64.wrapN _ bt, Mul64.maskN _ bt, Mul64.wrapN _ bc', Mul64.wrapN _ bw, Mul64.wrapN _ ba', Mul64.wrapN _ bh1, Mul64.wrapN _ bh, Mul64.wrapM (x * y)]
  rw [hhi]
  go_ret2
  exact ⟨rfl, rfl⟩

def reachB (R k c : Nat) : Bool := decide (R * k ≤ 10 * c)
set_option maxHeartbeats 1000000 in
theorem reach_any (R k c : Nat) (w : World) (hR : R < 9223372036854775808) (hk : k ≤ 10) (hc : c ≤ 100000) :
    Calls Yba.prog 19 #[.int .i64 (R : Int), .int .i64 (k : Int), .int .u64 (c : Int)] w fun e w' => e = .returned (.bool (reachB R k c)) ∧ w' = w := by
  have HM := hide (mul_any R k (by omega) (by omega))
  have hhi : R * k / 18446744073709551616 = 0 ∨ 0 < R * k / 18446744073709551616 := by omega
  unfold reachB
  generalize R * k = q at *
  by_cases hq : q < 18446744073709551616
  · have e1 : q / 18446744073709551616 = 0 := by omega
    have e2 : q % 18446744073709551616 = q := by omega
    rw [e1, e2] at HM
    clear e1 e2 hhi
    have hde : decide ((q : Int) ≤ 10 * (c : Int)) = decide (q ≤ 10 * c) := by rw [decide_eq_decide]; omega
    have HDE := hide hde
    clear hde
    go_enter Yba.func19, Yba.ntmps19
    go_wp2_with (go_at_call 27; refine (unhide HM _).mono ?_; rintro e w' ⟨rfl, hw⟩; rw [hw])
    go_ret
    exact ⟨by rw [← HDE.out]; rfl, rfl⟩
  · have hqc : ¬ q ≤ 10 * c := by omega
    rw [decide_eq_false hqc]
    obtain ⟨a, ha, ha0⟩ : ∃ a, q / 18446744073709551616 = a ∧ 0 < a := ⟨_, rfl, by omega⟩
    rw [ha] at HM
    have hb : ((a : Int) == 0) = false := by rw [beq_eq_false_iff_ne]; omega
    generalize q % 18446744073709551616 = r at *
    clear ha hhi hq hqc
    go_enter Yba.func19, Yba.ntmps19
    go_wp2_with (go_at_call 27; refine (unhide HM _).mono ?_; rintro e w' ⟨rfl, hw⟩; rw [hw])
    go_ret
    exact ⟨rfl, rfl⟩

def st0 : CSt := ⟨0, false, 0, [], []⟩
theorem tally_new (LG sd R : Nat) (w : World) (hlv : LV w LG R none 0 []) :
    Calls Yba.prog 15 #[.int .u64 (sd : Int), .int .i64 (R : Int), .func (.func 16) #[] #[.pointer (some ⟨LG, 0, none⟩)]] w fun e w' => e = .returned (.pointer (some ⟨w.heap.size + 1, 0, none⟩)) ∧ TS w' (w.heap.size + 1) w.heap.size LG sd R 0 none 0 st0 ∧ Outside [] w w' ∧ w'.heap.size = w.heap.size + 1 + 1 := by
  have HL := hide hlv
  clear hlv
  go_enter Yba.func15, Yba.ntmps15
  have hmk := run_makeMap (P := Yba.prog) 71 w
  go_wp2
  go_ret
  have hO : Outside [] w ((w.alloc (Obj.map #[] 0)).alloc (.cells #[.func (.func 16) #[] #[.pointer (some ⟨LG, 0, none⟩)], .int .u64 (sd : Int), .int .i64 (R : Int), .int .i32 0, .int .u32 0, .int .u64 0, .bool false, .map (some w.heap.size), .int .i64 0] 73)) := ((Outside.refl [] w).alloc _).alloc _
  refine ⟨rfl, ⟨?_, ?_, ?_⟩, hO, by simp⟩
  · have := heap_alloc_new (w.alloc (Obj.map #[] 0)) (.cells #[.func (.func 16) #[] #[.pointer (some ⟨LG, 0, none⟩)], .int .u64 (sd : Int), .int .i64 (R : Int), .int .i32 0, .int .u32 0, .int .u64 0, .bool false, .map (some w.heap.size), .int .i64 0] 73)
    rw [World.size_alloc] at this
    exact this
  · exact (MapB.made w).outside ((Outside.refl [] _).alloc _) (by simp)
  · exact lv_later HL.out hO

end Go.Proofs.Ybulkduge
