/-
  THE WALK OF 'LawS6049BWhole' (function 4).
-/
import Derived.Test.YbulkdugeOr
import Derived.Laws.CopyOwn
namespace Go.Proofs.Ybulkduge
open Go.RowKit
set_option linter.unusedVariables false

theorem Yba.info46 : (Yba.prog.info? 46).map (fun i => (i.zero, i.size, i.bytes)) = some (some (.int .u64 0), 1, 8) := by kernel_rfl
theorem Yba.size46 : (Yba.prog.info? 46).map (·.size) = some 1 := by kernel_rfl

def vals (X : List Nat) : List Value := X.map fun n : Nat => Value.int .u64 (n : Int)

set_option maxHeartbeats 400000 in
theorem lawB_long (s : ByteArray) (a1 : Option Addr) (len1 cap1 : Nat) (w : World) (hs : s.size ≤ 9223372036854775807) (hl : len1 ≤ 9223372036854775807) (h : 1048576 < s.size ∨ 1048576 < len1) :
    Calls Yba.prog 4 #[.string s, .slice a1 len1 cap1] w fun e w' => e = .returned (.bool true) ∧ Below w.heap.size w w' := by
  by_cases h1 : 1048576 < s.size
  · go_enter Yba.func4, Yba.ntmps4
    go_wp2
    go_ret
    exact ⟨rfl, Below.refl _ _⟩
  · have h2 : 1048576 < len1 := by omega
    have hd : decide ((1048576 : Int) < (s.size : Int)) = false := decide_eq_false (by omega)
    clear h
    go_enter Yba.func4, Yba.ntmps4
    go_wp2
    go_ret
    exact ⟨rfl, Below.refl _ _⟩

theorem row_made {w : World} {base b m : Nat} (h : w.ownsRow base 46 1 (.slice (some ⟨b, 0, none⟩) m m) m (madeCells (Value.int .u64 0).cells (m * 1)).toList) : RowN .u64 46 w b (List.replicate m 0) := by
  refine RowN.of_owns (base := base) (n := m) (cap := m) ?_ rfl
  have e : (madeCells (Value.int .u64 0).cells (m * 1)).toList = (List.replicate m 0).map fun n : Nat => Value.int .u64 (n : Int) := by
    rw [Nat.mul_one, show (Value.int .u64 0).cells = #[Value.int .u64 0] from rfl, toList_madeCells_one]
    simp
  rwa [e] at h

theorem row_spliced {w : World} {b m : Nat} {X : List Nat} (hm : X.length ≤ m) (h : w.heap[b]? = some (.cells (splice (vals (List.replicate m 0)) 0 (vals X)).toArray 46 (0, 0))) : RowN .u64 46 w b (X ++ List.replicate (m - X.length) 0) := by
  unfold RowN
  rw [h]
  simp [splice, vals]

theorem src_later {w w' : World} {a1 : Option Addr} {X : List Nat} {n : Nat} (hn : X.length = n) (hs : 0 < n → ∃ ad, a1 = some ad ∧ ∀ j v, (vals X)[j]? = some v → w.cell? (ad.add j) = some v) (hb : Below w.heap.size w w') :
    0 < (vals X).length → ∃ ad, a1 = some ad ∧ ∀ j v, (vals X)[j]? = some v → w'.cell? (ad.add j) = some v := by
  intro h
  obtain ⟨ad, h1, h2⟩ := hs (by simpa [vals, hn] using h)
  refine ⟨ad, h1, fun j v hv => ?_⟩
  have h3 := h2 j v hv
  rw [hb.cell (World.block_lt_of_cell? w _ h3)]
  exact h3

theorem vals_one (X : List Nat) : ∀ v ∈ vals X, v.oneCell' = true := by
  intro v hv
  simp only [vals, List.mem_map] at hv
  obtain ⟨n, _, rfl⟩ := hv
  rfl

theorem below_three {w w2 w3 : World} {o : Obj} (h2 : Below (w.heap.size + 1) (w.alloc o) w2) (h3 : Below w2.heap.size w2 w3) : Below w.heap.size w w3 := by
  have hs : w.heap.size + 1 ≤ w2.heap.size := by have := h2.size; simpa using this
  exact (((Below.refl _ _).alloc (Nat.le_refl _) _).trans (h2.mono (by omega))).trans (h3.mono (by omega))

theorem padded_lt {X : List Nat} (h : ∀ x ∈ X, x < 2 ^ 64) (n : Nat) : ∀ x ∈ X ++ List.replicate n 0, x < 2 ^ 64 := by
  intro x hx
  rcases List.mem_append.1 hx with h' | h'
  · exact h x h'
  · rw [List.eq_of_mem_replicate h']; exact Nat.two_pow_pos 64

theorem and_one_u8 (c b : Nat) (hc : c < 256) : bits BinOp.and IntKind.u8 ((c : Int) / 2 ^ b) 1 = ((c / 2 ^ b % 2 : Nat) : Int) := by
  have e : (c : Int) / 2 ^ b = ((c / 2 ^ b : Nat) : Int) := by simp
  have h := u8_and_nat (c / 2 ^ b) 1 (Nat.lt_of_le_of_lt (Nat.div_le_self _ _) hc) (by decide)
  rw [e, show (1 : Int) = ((1 : Nat) : Int) from rfl, h, Nat.and_one_is_mod]

theorem bit_hit {w : World} {g : Nat} {s : ByteArray} {L : List Nat} (hL : ∀ x ∈ L, x < 2 ^ 64) (k b : Nat) (hk : k < s.size) (hb : b < 8) (hi : (8 * k + b) / 64 < (midTo s L k b).length)
    (ht : (bits BinOp.and IntKind.u8 ((s[k].toNat : Int) / 2 ^ b) 1 != 0) = true) (h : RowN .u64 46 w g (midTo s L k b)) :
    RowN .u64 46 (w.setCell ⟨g, (8 * k + b) / 64, none⟩ (.int .u64 (bits .or .u64 (((midTo s L k b)[(8 * k + b) / 64] : Nat) : Int) (IntKind.u64.wrap (2 ^ ((8 * k + b) % 64)))))) g (midTo s L k (b + 1)) := by
  have e1 : (8 * k + b) / 64 = k / 8 := by omega
  have e2 : (8 * k + b) % 64 = 8 * (k % 8) + b := by omega
  have hx : (midTo s L k b)[(8 * k + b) / 64] < 2 ^ 64 := midTo_lt s L hL k b _ (List.getElem_mem hi)
  have h1 : byteAt s k / 2 ^ b % 2 = 1 := by
    rw [byteAt_get s k hk, and_one_u8 _ _ (byteAt_lt s k)] at ht
    simp only [bne_iff_ne, ne_eq] at ht
    omega
  have hp : 2 ^ ((8 * k + b) % 64) < 2 ^ 64 := Nat.pow_lt_pow_right (by decide) (Nat.mod_lt _ (by decide))
  have h2 : IntKind.u64.wrap ((2 : Int) ^ ((8 * k + b) % 64)) = ((2 ^ ((8 * k + b) % 64) : Nat) : Int) := by
    have e : (2 : Int) ^ ((8 * k + b) % 64) = ((2 ^ ((8 * k + b) % 64) : Nat) : Int) := by simp
    rw [e, IntKind.wrap_u64]
    generalize 2 ^ ((8 * k + b) % 64) = q at hp ⊢
    omega
  rw [h2, u64_or_nat _ _ (by omega) (by omega)]
  have hs := h.set ((8 * k + b) / 64) ((midTo s L k b)[(8 * k + b) / 64] ||| 2 ^ ((8 * k + b) % 64))
  have hm := midTo_hit s L k b (by rw [midTo_length] at hi; omega) h1
  rw [← hm]
  have e3 : (midTo s L k b)[(8 * k + b) / 64] = (midTo s L k b)[k / 8]?.getD 0 := by
    rw [← e1, List.getElem?_eq_getElem hi, Option.getD_some]
  rw [e3, e2] at hs
  rw [e3, e2]
  rw [e1] at hs ⊢
  exact hs

theorem bit_miss {w : World} {g : Nat} {s : ByteArray} {L : List Nat} (k b : Nat) (hk : k < s.size)
    (ht : (bits BinOp.and IntKind.u8 ((s[k].toNat : Int) / 2 ^ b) 1 != 0) = false) (h : RowN .u64 46 w g (midTo s L k b)) : RowN .u64 46 w g (midTo s L k (b + 1)) := by
  rw [← midTo_miss]
  · exact h
  · rw [byteAt_get s k hk, and_one_u8 _ _ (byteAt_lt s k)] at ht
    simp only [bne_eq_false_iff_eq] at ht
    omega

theorem below_end {w w4 wr w5 : World} {o : Obj} {g : Nat} (h4 : Below (w.heap.size + 1) (w.alloc o) w4) (hr : w4.grownBy wr (some g)) (h5 : wr.grownBy w5 (some (w.heap.size + 1))) (hg : w.heap.size ≤ g) (hz : w.heap.size + 1 ≤ w4.heap.size) : Below w.heap.size w w5 := by
  refine ((((Below.refl _ _).alloc (Nat.le_refl _) _).trans (h4.mono (by omega))).grown hr (by omega) ?_).grown h5 ?_ ?_
  · intro k hk; simp at hk; omega
  · have := hr.size; omega
  · intro k hk; simp at hk; omega

set_option maxRecDepth 100000 in
set_option maxHeartbeats 1000000 in
theorem lawB_short (s : ByteArray) (a1 : Option Addr) (len1 cap1 m : Nat) (X : List Nat) (w : World) (hs : s.size ≤ 1048576) (hl : len1 ≤ 1048576) (hX : X.length = len1) (hX2 : ∀ x ∈ X, x < 2 ^ 64)
    (hsrc : 0 < len1 → ∃ ad, a1 = some ad ∧ ∀ j v, (vals X)[j]? = some v → w.cell? (ad.add j) = some v)
    (hm1 : len1 ≤ m) (hm2 : (s.size + 7) / 8 ≤ m) (hm : (len1 < (s.size + 7) / 8 ∧ m ≤ (s.size + 7) / 8) ∨ ((s.size + 7) / 8 ≤ len1 ∧ m ≤ len1)) :
    Calls Yba.prog 4 #[.string s, .slice a1 len1 cap1] w fun e w' => e = .returned (.bool true) ∧ Below w.heap.size w w' := by
  obtain ⟨i0, hi, hz0, hz1, hz2⟩ := info_parts Yba.info46
  have hd : decide ((1048576 : Int) < (s.size : Int)) = false := decide_eq_false (by omega)
  have HX : Hid (X.length = len1) := hX
  have HX2 : Hid (∀ x ∈ X, x < 2 ^ 64) := hX2
  have HS : Hid (0 < len1 → ∃ ad, a1 = some ad ∧ ∀ j v, (vals X)[j]? = some v → w.cell? (ad.add j) = some v) := hsrc
  have HV : Hid ((vals X).length = Nat.min len1 m) := by show _ = _; simp only [vals, List.length_map, hX]; exact (Nat.min_eq_left hm1).symm
  clear hX hX2 hsrc
  rcases hm with ⟨hn, hm3⟩ | ⟨hn, hm3⟩
  all_goals
    go_enter Yba.func4, Yba.ntmps4
    go_wp2_with (first
      | (at_make; refine wpList_make_full _ rfl (.tmp 35) (.tmp 35) 43 rfl (w.heap.size + 1) 46 i0 (.int .u64 0) 1 Yba.underlying43 hi hz0 hz1 .i64 .i64 _ _ m rfl rfl (by omega) (by omega) (by rw [hz2]; omega) (by unfold maxLen; omega) (by simp) ?_; intro w1 hown1 hgrow1; rw [show (w.alloc (.cells #[.string s] 45)).heap.size = w.heap.size + 1 from by simp] at hown1; have HR1 : Hid (RowN .u64 46 w1 (w.heap.size + 1) (List.replicate m 0)) := row_made hown1; have HB1 : Hid (Below (w.heap.size + 1) (w.alloc (.cells #[.string s] 45)) w1) := (Below.refl _ _).grown hgrow1 (by simp) (by simp); clear hown1 hgrow1)
      | (have _t := HR1; refine wpList_copy_splice rfl (.tmp 37) (.tmp 38) 43 43 rfl 46 Yba.underlying43 Yba.size46 _ _ _ _ _ _ rfl rfl (w.heap.size + 1) 0 (vals (List.replicate m 0)) 46 HR1.out (vals X) HV.out (fun h => ⟨rfl, src_later HX.out HS.out (((Below.refl _ _).alloc (Nat.le_refl _) _).trans (HB1.out.mono (by omega))) h⟩) (by simp [vals, HX.out]; omega) (vals_one X) (w.heap.size + 1) (w.alloc (.cells #[.string s] 45)) HB1.out (Nat.le_refl _) ?_; intro w2 HG2 hB2; have HR2 : Hid (RowN .u64 46 w2 (w.heap.size + 1) (X ++ List.replicate (m - X.length) 0)) := row_spliced (by rw [HX.out]; exact hm1) HG2.out; have HB2 : Hid (Below (w.heap.size + 1) (w.alloc (.cells #[.string s] 45)) w2) := hB2; clear HG2 hB2 _t HR1)
      | (at_make; refine wpList_make_full _ rfl (.tmp 40) (.tmp 40) 43 rfl 0 46 i0 (.int .u64 0) 1 Yba.underlying43 hi hz0 hz1 .i64 .i64 _ _ m rfl rfl (by omega) (by omega) (by rw [hz2]; omega) (by unfold maxLen; omega) (by simp) ?_; intro w3 hown3 hgrow3; have HR3 : Hid (RowN .u64 46 w3 w2.heap.size (List.replicate m 0)) := row_made hown3; have HB3 : Hid (Below w2.heap.size w2 w3) := (Below.refl _ _).grown hgrow3 (by simp) (by simp); clear hown3 hgrow3)
      | (have _t := HR3; refine wpList_copy_splice rfl (.tmp 42) (.tmp 43) 43 43 rfl 46 Yba.underlying43 Yba.size46 _ _ _ _ _ _ rfl rfl w2.heap.size 0 (vals (List.replicate m 0)) 46 HR3.out (vals X) HV.out (fun h => ⟨rfl, src_later HX.out HS.out (below_three HB2.out HB3.out) h⟩) (by simp [vals, HX.out]; omega) (vals_one X) w2.heap.size w2 HB3.out (Nat.le_refl _) ?_; intro w4 HG4 hB4; have HR4 : Hid (RowN .u64 46 w4 w2.heap.size (X ++ List.replicate (m - X.length) 0)) := row_spliced (by rw [HX.out]; exact hm1) HG4.out; have HB4 : Hid (Below w2.heap.size w2 w4) := hB4; clear HG4 hB4 _t HR3))
    have hg := HR2.out.lt
    have HRw : Hid (RowN .u64 46 w4 (w.heap.size + 1) (X ++ List.replicate (m - X.length) 0)) := HR2.out.of_block (HB4.out.block _ hg)
    have HBw : Hid (Below (w.heap.size + 1) (w.alloc (.cells #[.string s] 45)) w4) := HB2.out.trans (HB4.out.mono (by omega))
    have HXL : Hid ((X ++ List.replicate (m - X.length) 0).length = m) := by show _ = _; simp only [List.length_append, List.length_replicate, HX.out]; omega
    have HX3 : Hid (∀ x ∈ X ++ List.replicate (m - X.length) 0, x < 2 ^ 64) := padded_lt HX2.out _
    have HR4' := HR4
    clear HR4 HR2 HB1 HB2 HB3 HB4 HV HS HX2 HX
    generalize X ++ List.replicate (m - X.length) 0 = X0 at *
    generalize w2.heap.size = g at *
    go_loopw [10] (fun i wr => ∃ k : Nat, k ≤ s.size ∧ i = .int .i64 k ∧ RowN .u64 46 wr g (orTo s X0 k) ∧ w4.grownBy wr (some g)) (fun i _ => s.size - (intOf i).toNat)
    case atStart => exact ⟨0, Nat.zero_le _, rfl, HR4'.out, grownBy_refl _ _⟩
    case round =>
      obtain ⟨k, hk, rfl, hr, hgr⟩ := hrel
      have HG : Hid (w4.grownBy wr (some g)) := hgr
      have HR : Hid (RowN .u64 46 wr g (orTo s X0 k)) := hr
      clear hr hgr
      by_cases hlt : k < s.size
      · obtain ⟨wo, rfl⟩ : ∃ wo : World, wo = wr := ⟨_, rfl⟩
        go_wp2
        go_loopw [12] (fun i wr => ∃ b : Nat, b ≤ 8 ∧ i = .int .i64 b ∧ RowN .u64 46 wr g (midTo s X0 k b) ∧ w4.grownBy wr (some g)) (fun i _ => 8 - (intOf i).toNat)
        case atStart => exact ⟨0, Nat.zero_le _, rfl, by rw [midTo_zero]; exact HR.out, HG.out⟩
        case round =>
          obtain ⟨b, hb, rfl, hr, hgr⟩ := hrel
          have HG' : Hid (w4.grownBy wr (some g)) := hgr
          have HR' : Hid (RowN .u64 46 wr g (midTo s X0 k b)) := hr
          have hkL : k / 8 < (midTo s X0 k b).length := by rw [midTo_length, HXL.out]; omega
          by_cases hb8 : b < 8
          · have hkL' : (8 * k + b) / 64 < (midTo s X0 k b).length := by rw [midTo_length, HXL.out]; omega
            have hc := hr.cell ((8 * k + b) / 64) hkL'
            have hf := hr.frozen ((8 * k + b) / 64)
            clear hr hgr
            go_wp2
            · have ht : (bits BinOp.and IntKind.u8 ((s[k].toNat : Int) / 2 ^ b) 1 != 0) = true := by assumption
              go_roundw
              case rel => exact ⟨b + 1, by omega, by go_num, bit_hit HX3.out k b hlt hb8 hkL' ht HR'.out, grownBy_setCell HG'.out _ _⟩
              case measure => simp [intOf]; omega
            · have ht : (bits BinOp.and IntKind.u8 ((s[k].toNat : Int) / 2 ^ b) 1 != 0) = false := by assumption
              go_roundw
              case rel => exact ⟨b + 1, by omega, by go_num, bit_miss k b hlt ht HR'.out, HG'.out⟩
              case measure => simp [intOf]; omega
          · obtain rfl : b = 8 := by omega
            have HR8 : Hid (RowN .u64 46 wr g (orTo s X0 (k + 1))) := by rw [← midTo_eight]; exact HR'.out
            clear hr hgr
            go_wp2
            go_roundw
            case rel => exact ⟨k + 1, by omega, by go_num, HR8.out, HG'.out⟩
            case measure => simp [intOf]; omega
      · have hc0 : wr.cell? ⟨w.heap.size, 0, none⟩ = some (.string s) := by
          refine HG.out.cell ((HBw.out.cell (by exact Nat.lt_succ_self _)).trans (by simp)) (by simp; omega)
        obtain rfl : k = s.size := by omega
        go_wp2_with fail
        refine (orWords_any s (w.heap.size + 1) m m X0 _ hs (HRw.out.grown HG.out (by simp; omega)) HXL.out hm2 (by omega) HX3.out).mono ?_
        rintro e w5 ⟨rfl, hr5, hgr5⟩
        have hwg := HR.out.grown hgr5 (by simp; omega)
        have hsz := HG.out.size
        have hsz2 := HR4'.out.lt
        have hB5 : Below w.heap.size w w5 := below_end HBw.out HG.out hgr5 (by omega) (by omega)
        have hYL := orTo_length s X0 s.size
        rw [HXL.out] at hYL
        generalize orTo s X0 s.size = Y at *
        have HY : Hid (Y.length = m) := hYL
        have H5 : Hid (RowN .u64 46 w5 (w.heap.size + 1) Y ∧ RowN .u64 46 w5 g Y ∧ Below w.heap.size w w5) := ⟨hr5, hwg, hB5⟩
        clear hYL hr5 hwg hB5 hgr5 hsz hsz2 hc0
        go_wp2
        go_loopw [14] (fun i wr => ∃ j : Nat, j ≤ m ∧ i = .int .i64 j ∧ RowN .u64 46 wr (w.heap.size + 1) Y ∧ RowN .u64 46 wr g Y ∧ Below w.heap.size w wr) (fun i _ => m - (intOf i).toNat)
        case atStart => exact ⟨0, Nat.zero_le _, rfl, H5.out⟩
        case round =>
          obtain ⟨j, hj, rfl, hr1, hr2, hbw⟩ := hrel
          have HH : Hid (RowN .u64 46 wr (w.heap.size + 1) Y ∧ RowN .u64 46 wr g Y ∧ Below w.heap.size w wr) := ⟨hr1, hr2, hbw⟩
          by_cases hjm : j < m
          · have hjY : j < Y.length := by rw [HY.out]; exact hjm
            have hc1 := hr1.cell j hjY
            have hc2 := hr2.cell j hjY
            clear hr1 hr2 hbw
            go_wp2
            go_region
            all_goals
              go_wp2
              go_roundw
              case rel => exact ⟨j + 1, by omega, by go_num, HH.out.1.drew, HH.out.2.1.drew, HH.out.2.2.drew⟩
              case measure => simp [intOf]; omega
          · clear hr1 hr2 hbw
            go_wp2
            go_ret
            exact ⟨rfl, HH.out.2.2⟩
end Go.Proofs.Ybulkduge
