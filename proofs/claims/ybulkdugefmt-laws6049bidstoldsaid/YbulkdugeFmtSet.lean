/-
  THE WALKS OF 'checkIdentity' (7), 'locate' (8), '(ProcSet).words' (5) AND 'NewProcSet' (4).
-/
import Derived.Test.YbulkdugeFmtOr
import Derived.Laws.IdiomStrings
namespace Go.Proofs.YbulkdugeFmt
open Go.RowKit
set_option linter.unusedVariables false

theorem Ybaf.info3 : (Ybaf.prog.info? 3).map (fun i => (i.zero, i.size, i.bytes)) = some (some (.int .i64 0), 1, 8) := by kernel_rfl
theorem Ybaf.info5 : (Ybaf.prog.info? 5).map (fun i => (i.zero, i.size, i.bytes)) = some (some (.int .u8 0), 1, 1) := by kernel_rfl
theorem Ybaf.info30 : (Ybaf.prog.info? 30).map (fun i => (i.zero, i.size, i.bytes)) = some (some (.int .u64 0), 1, 8) := by kernel_rfl

theorem ret_int {k : IntKind} {a b : Int} (h : a = b) : Ending.returned (.int k a) = .returned (.int k b) := by rw [h]
theorem ret_two {k l : IntKind} {a b c d : Int} (h : a = b) (h' : c = d) : Ending.returned (.tuple #[.int k a, .int l c]) = .returned (.tuple #[.int k b, .int l d]) := by rw [h, h']

set_option maxHeartbeats 400000 in
theorem check_any (n : Int) (h1 : 1 ≤ n) (h2 : n ≤ 1048576) (w : World) : Calls Ybaf.prog 7 #[.int .i64 n] w fun e w' => e = .returned (.tuple #[]) ∧ w' = w := by
  go_enter Ybaf.func7, Ybaf.ntmps7
  go_wp2
  go_end0
  exact ⟨rfl, rfl⟩

set_option maxHeartbeats 400000 in
theorem locate_any (n : Nat) (h1 : 1 ≤ n) (h2 : n ≤ 1048576) (w : World) : Calls Ybaf.prog 8 #[.int .i64 (n : Int)] w fun e w' => e = .returned (.tuple #[.int .i64 (((n - 1) / 8 : Nat) : Int), .int .u8 ((2 ^ ((n - 1) % 8) : Nat) : Int)]) ∧ w' = w.drew := by
  go_enter Ybaf.func8, Ybaf.ntmps8
  go_wp2
  go_region
  all_goals
    go_wp2
    go_ret2
    refine ⟨ret_two (by omega) ?_, rfl⟩
    have hp : 2 ^ ((n - 1) % 8) < 2 ^ 8 := Nat.pow_lt_pow_right (by decide) (Nat.mod_lt _ (by decide))
    have e : (2 : Int) ^ ((n - 1) % 8) = ((2 ^ ((n - 1) % 8) : Nat) : Int) := by simp
    rw [e]
    generalize 2 ^ ((n - 1) % 8) = q at hp ⊢
    omega

set_option maxHeartbeats 400000 in
theorem words_any (s : ByteArray) (hs : s.size ≤ 1048576) (w : World) : Calls Ybaf.prog 5 #[.agg #[.string s]] w fun e w' => e = .returned (.int .i64 (((s.size + 7) / 8 : Nat) : Int)) ∧ w' = w.alloc (.cells #[.string s] 27) := by
  go_enter Ybaf.func5, Ybaf.ntmps5
  go_wp2
  go_ret
  exact ⟨ret_int (by omega), rfl⟩

/-- The bytes as a string. -/
def strOf (B : List Nat) : ByteArray := ⟨(B.map UInt8.ofNat).toArray⟩
theorem strOf_size (B : List Nat) : (strOf B).size = B.length := by simp [strOf, ByteArray.size]
theorem strOf_byte (B : List Nat) (h : ∀ x ∈ B, x < 2 ^ 8) (k : Nat) : byteAt (strOf B) k = B[k]?.getD 0 := by
  unfold byteAt strOf
  simp only [List.getElem?_map]
  rcases hk : B[k]? with _ | x
  · rfl
  · have := h x (List.mem_of_getElem? hk)
    simp
    omega

theorem run_strOf (w : World) (b : Nat) (B : List Nat) (h : ∀ x ∈ B, x < 2 ^ 8) (hr : RowN .u8 5 w b B) (n cap : Nat) (hn : B.length = n) :
    (convert 35 9 (.slice (some ⟨b, 0, none⟩) n cap)).run Ybaf.prog w = .ok (.string (strOf B)) w := by
  have := run_convert_bytes_back (P := Ybaf.prog) w 35 9 5 ⟨b, 0, none⟩ cap (B.map UInt8.ofNat) Ybaf.underlying35 Ybaf.underlying5 Ybaf.underlying9 (fun j hj => by
    have hj' : j < B.length := by simpa using hj
    have hc := hr.cell j hj'
    have hx := h B[j] (List.getElem_mem hj')
    have ea : (⟨b, 0, none⟩ : Addr).add j = ⟨b, j, none⟩ := by simp [Addr.add]; exact fun h => h.symm
    rw [ea, hc]
    simp [hj']
    omega)
  rw [List.length_map, hn] at this
  exact this

theorem or_mask (x m : Nat) (hx : x < 2 ^ 8) (hm : m < 8) : bits .or .u8 (x : Int) ((2 ^ m : Nat) : Int) = ((x ||| 2 ^ m : Nat) : Int) := by
  have hp : 2 ^ m < 2 ^ 8 := Nat.pow_lt_pow_right (by decide) hm
  exact u8_or_nat x (2 ^ m) (by omega) (by omega)

theorem row_made {k : IntKind} {e : TypeId} {w : World} {base b m : Nat} (h : w.ownsRow base e 1 (.slice (some ⟨b, 0, none⟩) m m) m (madeCells (Value.int k 0).cells (m * 1)).toList) : RowN k e w b (List.replicate m 0) := by
  refine RowN.of_owns (base := base) (n := m) (cap := m) ?_ rfl
  have e : (madeCells (Value.int k 0).cells (m * 1)).toList = (List.replicate m 0).map fun n : Nat => Value.int k (n : Int) := by
    rw [Nat.mul_one, show (Value.int k 0).cells = #[Value.int k 0] from rfl, toList_madeCells_one]
    simp
  rwa [e] at h

theorem max_step (I : List Nat) (k : Nat) (hk : k < I.length) : (if maxTo (I.take k) < I[k] then ((I[k] : Nat) : Int) else ((maxTo (I.take k) : Nat) : Int)) = ((maxTo (I.take (k + 1)) : Nat) : Int) := by
  rw [List.take_succ_eq_append_getElem hk, maxTo_snoc]
  split <;> omega

theorem bits_step (W : Nat) (I L : List Nat) (k : Nat) (hk : k < I.length) : bitsTo W L (I.take (k + 1)) = (bitsTo W L (I.take k)).set ((I[k] - 1) / W) ((bitsTo W L (I.take k))[(I[k] - 1) / W]?.getD 0 ||| 2 ^ ((I[k] - 1) % W)) := by
  rw [List.take_succ_eq_append_getElem hk, bitsTo_snoc]

theorem mask_row {w : World} {g : Nat} {I L : List Nat} (hL : ∀ x ∈ L, x < 2 ^ 8) (k : Nat) (hk : k < I.length) (hi : (I[k] - 1) / 8 < (bitsTo 8 L (I.take k)).length) (h : RowN .u8 5 w g (bitsTo 8 L (I.take k))) :
    RowN .u8 5 (w.setCell ⟨g, (I[k] - 1) / 8, none⟩ (.int .u8 (bits .or .u8 (((bitsTo 8 L (I.take k))[(I[k] - 1) / 8] : Nat) : Int) ((2 ^ ((I[k] - 1) % 8) : Nat) : Int)))) g (bitsTo 8 L (I.take (k + 1))) := by
  have hx := bitsTo_lt 8 (I.take k) L (by decide) hL _ (List.getElem_mem hi)
  rw [or_mask _ _ hx (Nat.mod_lt _ (by decide)), bits_step 8 I L k hk]
  have := h.set ((I[k] - 1) / 8) ((bitsTo 8 L (I.take k))[(I[k] - 1) / 8] ||| 2 ^ ((I[k] - 1) % 8))
  rw [List.getElem?_eq_getElem hi, Option.getD_some]
  exact this

theorem zeros_lt (W n : Nat) : ∀ x ∈ List.replicate n 0, x < 2 ^ W := by
  intro x hx
  rw [List.eq_of_mem_replicate hx]
  exact Nat.two_pow_pos W

set_option maxRecDepth 100000 in
set_option maxHeartbeats 1000000 in
theorem newSet_any (b n : Nat) (I : List Nat) (w : World) (hr : RowN .i64 3 w b I) (hn : I.length = n) (hn2 : n ≤ 65536) (hI : ∀ x ∈ I, 1 ≤ x ∧ x ≤ 4096) (nb : Nat) (hnb1 : nb ≤ (maxTo I + 7) / 8) (hnb2 : (maxTo I + 7) / 8 ≤ nb) :
    Calls Ybaf.prog 4 #[.slice (some ⟨b, 0, none⟩) n n] w fun e w' => e = .returned (.agg #[.string (strOf (bitsTo 8 (List.replicate nb 0) I))]) ∧ Below w.heap.size w w' := by
  obtain ⟨i5, hi, hz0, hz1, hz2⟩ := info_parts Ybaf.info5
  have HR : Hid (RowN .i64 3 w b I) := hr
  have HN : Hid (I.length = n) := hn
  have HI : Hid (∀ x ∈ I, 1 ≤ x ∧ x ≤ 4096) := hI
  have hbw := hr.lt
  clear hr hn hI
  go_enter Ybaf.func4, Ybaf.ntmps4
  go_wp2
  go_loop [3, 13] (fun m i => ∃ k : Nat, k ≤ n ∧ i = .int .i64 k ∧ m = .int .i64 (maxTo (I.take k) : Nat)) (fun _ i => n - (intOf i).toNat)
  case atStart => exact ⟨0, Nat.zero_le _, rfl, rfl⟩
  case round =>
    obtain ⟨k, hk, rfl, rfl⟩ := hrel
    by_cases hlt : k < n
    · have hkI : k < I.length := by rw [HN.out]; exact hlt
      have hc := HR.out.cell k hkI
      have hx := HI.out I[k] (List.getElem_mem hkI)
      have hx1 : (1 : Int) ≤ (I[k] : Nat) := by omega
      have hx2 : ((I[k] : Nat) : Int) ≤ 4096 := by omega
      go_wp2_with (go_at_call 7; refine (check_any _ (by omega) (by omega) _).mono ?_; rintro e w' ⟨rfl, rfl⟩)
      go_round
      case rel => exact ⟨k + 1, by omega, by go_num, by rw [max_step I k hkI]⟩
      case measure => simp [intOf]; omega
    · obtain rfl : k = n := by omega
      have ht : I.take k = I := List.take_of_length_le (by rw [HN.out]; exact Nat.le_refl _)
      rw [ht]
      have hm := maxTo_le I 4096 (fun x hx => (HI.out x hx).2)
      have HL : Hid (∀ x ∈ I, x ≤ maxTo I) := le_maxTo I
      clear ht
      go_wp2_with (at_make; refine wpList_make_full _ rfl (.tmp 25) (.tmp 25) 35 rfl 0 5 i5 (.int .u8 0) 1 Ybaf.underlying35 hi hz0 hz1 .i64 .i64 _ _ nb rfl rfl (by omega) (by omega) (by rw [hz2]; omega) (by unfold maxLen; omega) (by simp) ?_; intro w1 hown1 hgrow1; rw [World.size_alloc] at hown1; have HR1 : Hid (RowN .u8 5 w1 (w.heap.size + 1) (List.replicate nb 0)) := row_made hown1; have HB1 : Hid (Below (w.heap.size + 1) (w.alloc (.cells #[.string { data := #[] }] 27)) w1) := (Below.refl _ _).grown hgrow1 (by simp) (by simp); clear hown1 hgrow1)
      have HLn : Hid (∀ x ∈ I, (x - 1) / 8 < nb) := fun x hx => by have := HL.out x hx; have := HI.out x hx; omega
      have HRw : Hid (RowN .i64 3 w1 b I) := ((HR.out.alloc _).of_block (HB1.out.block b (by omega)))
      clear HR HL
      go_loopw [29] (fun i wr => ∃ j : Nat, j ≤ k ∧ i = .int .i64 j ∧ RowN .u8 5 wr (w.heap.size + 1) (bitsTo 8 (List.replicate nb 0) (I.take j)) ∧ w1.grownBy wr (some (w.heap.size + 1))) (fun i _ => k - (intOf i).toNat)
      case atStart => exact ⟨0, Nat.zero_le _, rfl, HR1.out, grownBy_refl _ _⟩
      case round =>
        obtain ⟨j, hj, rfl, hr, hgr⟩ := hrel
        have HG : Hid (w1.grownBy wr (some (w.heap.size + 1))) := hgr
        have HR2 : Hid (RowN .u8 5 wr (w.heap.size + 1) (bitsTo 8 (List.replicate nb 0) (I.take j))) := hr
        by_cases hjl : j < k
        · have hjI : j < I.length := by rw [HN.out]; exact hjl
          have hc := (HRw.out.grown hgr (by simp; omega)).cell j hjI
          have hx := HI.out I[j] (List.getElem_mem hjI)
          have hiL : (I[j] - 1) / 8 < (bitsTo 8 (List.replicate nb 0) (I.take j)).length := by rw [bitsTo_length, List.length_replicate]; exact HLn.out _ (List.getElem_mem hjI)
          have hin := HLn.out _ (List.getElem_mem hjI)
          have hc2 := hr.cell ((I[j] - 1) / 8) hiL
          have hf2 := hr.frozen ((I[j] - 1) / 8)
          clear hr hgr
          go_wp2_with (go_at_call 8; refine (locate_any _ (by omega) (by omega) _).mono ?_; rintro e w' ⟨rfl, rfl⟩)
          go_roundw
          case rel => exact ⟨j + 1, by omega, by go_num, (mask_row (zeros_lt 8 nb) j hjI hiL HR2.out).drew, grownBy_drew (grownBy_setCell HG.out _ _)⟩
          case measure => simp [intOf]; omega
        · obtain rfl : j = k := by omega
          have HT : Hid (I.take j = I) := List.take_of_length_le (by rw [HN.out]; exact Nat.le_refl _)
          rw [HT.out] at hr
          have hcv := run_strOf wr (w.heap.size + 1) _ (bitsTo_lt 8 I (List.replicate nb 0) (by decide) (zeros_lt 8 nb)) hr nb nb (by rw [bitsTo_length, List.length_replicate])
          have hB : Below (w.heap.size + 1) (w.alloc (.cells #[.string { data := #[] }] 27)) wr := HB1.out.grown hgr (Nat.le_of_lt HR1.out.lt) (by simp)
          have HBw : Hid (Below (w.heap.size + 1) (w.alloc (.cells #[.string { data := #[] }] 27)) wr) := hB
          have hc0 : wr.cell? ⟨w.heap.size, 0, none⟩ = some (.string { data := #[] }) := (hB.cell (by exact Nat.lt_succ_self _)).trans (by simp)
          have hf0 : wr.frozen? ⟨w.heap.size, 0, none⟩ = false := (hB.frozen (by exact Nat.lt_succ_self _)).trans (by simp)
          clear hr hgr hB
          go_wp2
          refine bodyPost_ret (v := .agg #[.string (strOf (bitsTo 8 (List.replicate nb 0) I))]) (by simp [results, Ybaf.results4, go_sem, hc0]) rfl ⟨rfl, ?_⟩
          exact (((Below.refl _ _).alloc (Nat.le_refl _) _).trans (HBw.out.mono (by omega))).setCell (by simp) _
end Go.Proofs.YbulkdugeFmt
