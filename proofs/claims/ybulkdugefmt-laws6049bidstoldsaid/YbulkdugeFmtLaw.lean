/-
  THE WALK OF 'LawS6049BIds' (function 3).
-/
import Derived.Test.YbulkdugeFmtSet
import Derived.Laws.CopyOwn
namespace Go.Proofs.YbulkdugeFmt
open Go.RowKit
set_option linter.unusedVariables false

theorem Ybaf.size30 : (Ybaf.prog.info? 30).map (·.size) = some 1 := by kernel_rfl

def vals (X : List Nat) : List Value := X.map fun n : Nat => Value.int .u64 (n : Int)

set_option maxHeartbeats 400000 in
theorem lawI_long (a0 : Option Addr) (len0 cap0 : Nat) (a1 : Option Addr) (len1 cap1 : Nat) (w : World) (hs : len0 ≤ 9223372036854775807) (hl : len1 ≤ 9223372036854775807) (h : 65536 < len0 ∨ 1048576 < len1) :
    Calls Ybaf.prog 3 #[.slice a0 len0 cap0, .slice a1 len1 cap1] w fun e w' => e = .returned (.bool true) ∧ Below w.heap.size w w' := by
  by_cases h1 : 65536 < len0
  · go_enter Ybaf.func3, Ybaf.ntmps3
    go_wp2
    go_ret
    exact ⟨rfl, Below.refl _ _⟩
  · have h2 : 1048576 < len1 := by omega
    have hd : decide ((65536 : Int) < (len0 : Int)) = false := decide_eq_false (by omega)
    clear h
    go_enter Ybaf.func3, Ybaf.ntmps3
    go_wp2
    go_ret
    exact ⟨rfl, Below.refl _ _⟩

theorem row_spliced {w : World} {b m : Nat} {X : List Nat} (hm : X.length ≤ m) (h : w.heap[b]? = some (.cells (splice (vals (List.replicate m 0)) 0 (vals X)).toArray 30 (0, 0))) : RowN .u64 30 w b (X ++ List.replicate (m - X.length) 0) := by
  unfold RowN
  rw [h]
  simp [splice, vals]

theorem src_later {w w' : World} {a1 : Option Addr} {X : List Nat} {n : Nat} (hn : X.length = n) (hs : 0 < n → ∃ ad, a1 = some ad ∧ ∀ j v, (vals X)[j]? = some v → w.cell? (ad.add j) = some v) (hb : Below w.heap.size w w') :
    0 < (vals X).length → ∃ ad, a1 = some ad ∧ ∀ j v, (vals X)[j]? = some v → w'.cell? (ad.add j) = some v := by
  intro h
  obtain ⟨ad, h1, h2⟩ := hs (by simpa [vals, hn] using h)
  refine ⟨ad, h1, fun j v hv => ?_⟩
  have h3 := h2 j v hv
  rw [hb.cell (World.block_lt_of_cell? w _ h3)]
  exact h3

theorem vals_one (X : List Nat) : ∀ v ∈ vals X, v.oneCell' = true := by
  intro v hv
  simp only [vals, List.mem_map] at hv
  obtain ⟨n, _, rfl⟩ := hv
  rfl

theorem padded_lt {X : List Nat} (h : ∀ x ∈ X, x < 2 ^ 64) (n : Nat) : ∀ x ∈ X ++ List.replicate n 0, x < 2 ^ 64 := by
  intro x hx
  rcases List.mem_append.1 hx with h' | h'
  · exact h x h'
  · rw [List.eq_of_mem_replicate h']; exact Nat.two_pow_pos 64

def idsOf (Z : List Nat) : List Nat := Z.map fun z => z % 4096 + 1
theorem idsOf_length (Z : List Nat) : (idsOf Z).length = Z.length := by simp [idsOf]
theorem idsOf_get (Z : List Nat) (k : Nat) (h : k < Z.length) (h' : k < (idsOf Z).length) : (idsOf Z)[k] = Z[k] % 4096 + 1 := by simp [idsOf]
theorem idsOf_mem (Z : List Nat) : ∀ x ∈ idsOf Z, 1 ≤ x ∧ x ≤ 4096 := by
  intro x hx
  simp only [idsOf, List.mem_map] at hx
  obtain ⟨z, _, rfl⟩ := hx
  omega

theorem row_filled {w : World} {g n : Nat} {I : List Nat} (k : Nat) (hk : k < I.length) (hn : I.length = n) (h : RowN .i64 3 w g (I.take k ++ List.replicate (n - k) 0)) (v : Int) (hv : v = ((I[k] : Nat) : Int)) :
    RowN .i64 3 (w.setCell ⟨g, k, none⟩ (.int .i64 v)) g (I.take (k + 1) ++ List.replicate (n - (k + 1)) 0) := by
  subst hv
  have := h.set k I[k]
  have e : (I.take k ++ List.replicate (n - k) 0).set k I[k] = I.take (k + 1) ++ List.replicate (n - (k + 1)) 0 := by
    have h1 : n - k = (n - (k + 1)) + 1 := by omega
    rw [h1, List.replicate_succ, List.set_append_right _ _ (by simp; omega), List.take_succ_eq_append_getElem hk]
    have h2 : k - (I.take k).length = 0 := by simp; omega
    rw [h2]
    simp only [List.set_cons_zero, List.append_assoc, List.cons_append, List.nil_append]
  rwa [e] at this

theorem max_hit (Z : List Nat) (k : Nat) (hk : k < Z.length) (h : ((maxTo ((idsOf Z).take k) : Nat) : Int) < ((Z[k] : Nat) : Int) % 4096 + 1) : ((Z[k] : Nat) : Int) % 4096 + 1 = ((maxTo ((idsOf Z).take (k + 1)) : Nat) : Int) := by
  have hk' : k < (idsOf Z).length := by rw [idsOf_length]; exact hk
  rw [List.take_succ_eq_append_getElem hk', maxTo_snoc, idsOf_get Z k hk hk']
  omega
theorem max_miss (Z : List Nat) (k : Nat) (hk : k < Z.length) (h : ((Z[k] : Nat) : Int) % 4096 + 1 ≤ ((maxTo ((idsOf Z).take k) : Nat) : Int)) : ((maxTo ((idsOf Z).take k) : Nat) : Int) = ((maxTo ((idsOf Z).take (k + 1)) : Nat) : Int) := by
  have hk' : k < (idsOf Z).length := by rw [idsOf_length]; exact hk
  rw [List.take_succ_eq_append_getElem hk', maxTo_snoc, idsOf_get Z k hk hk']
  omega

theorem below_make {w w2 w3 : World} {o o' : Obj} (h : Below w.heap.size w w2) (h3 : Below (w2.heap.size + 1 + 1) ((w2.alloc o).alloc o') w3) : Below w.heap.size w w3 := by
  have hs := h.size
  exact ((h.alloc hs _).alloc (by simp; omega) _).trans (h3.mono (by omega))

theorem below_next {w w2 w3 w4 : World} {o o' : Obj} (h : Below w.heap.size w w2) (h3 : Below (w2.heap.size + 1 + 1) ((w2.alloc o).alloc o') w3) (h4 : Below w3.heap.size w3 w4) : Below w.heap.size w w4 := by
  have hs := h.size
  have hs3 := h3.size
  simp at hs3
  exact (below_make h h3).trans (h4.mono (by omega))

theorem exp_row {w : World} {g : Nat} {I L : List Nat} (hL : ∀ x ∈ L, x < 2 ^ 64) (k : Nat) (hk : k < I.length) (hi : (I[k] - 1) / 64 < (bitsTo 64 L (I.take k)).length) (h : RowN .u64 30 w g (bitsTo 64 L (I.take k))) :
    RowN .u64 30 (w.setCell ⟨g, (I[k] - 1) / 64, none⟩ (.int .u64 (bits .or .u64 (((bitsTo 64 L (I.take k))[(I[k] - 1) / 64] : Nat) : Int) (IntKind.u64.wrap (2 ^ ((I[k] - 1) % 64)))))) g (bitsTo 64 L (I.take (k + 1))) := by
  have hx := bitsTo_lt 64 (I.take k) L (by decide) hL _ (List.getElem_mem hi)
  have hp : 2 ^ ((I[k] - 1) % 64) < 2 ^ 64 := Nat.pow_lt_pow_right (by decide) (Nat.mod_lt _ (by decide))
  have h2 : IntKind.u64.wrap ((2 : Int) ^ ((I[k] - 1) % 64)) = ((2 ^ ((I[k] - 1) % 64) : Nat) : Int) := by
    have e : (2 : Int) ^ ((I[k] - 1) % 64) = ((2 ^ ((I[k] - 1) % 64) : Nat) : Int) := by simp
    rw [e, IntKind.wrap_u64]
    generalize 2 ^ ((I[k] - 1) % 64) = q at hp ⊢
    omega
  rw [h2, u64_or_nat _ _ (by omega) (by omega), bits_step 64 I L k hk]
  have := h.set ((I[k] - 1) / 64) ((bitsTo 64 L (I.take k))[(I[k] - 1) / 64] ||| 2 ^ ((I[k] - 1) % 64))
  rw [List.getElem?_eq_getElem hi, Option.getD_some]
  exact this

set_option maxRecDepth 100000 in
set_option maxHeartbeats 2000000 in
theorem lawI_short (a0 : Option Addr) (len0 cap0 : Nat) (Z : List Nat) (a1 : Option Addr) (len1 cap1 m : Nat) (X : List Nat) (w : World) (hs : len0 ≤ 65536) (hl : len1 ≤ 1048576)
    (hZ : Z.length = len0) (hsrc0 : 0 < len0 → ∃ b off, a0 = some ⟨b, off, none⟩ ∧ b < w.heap.size ∧ ∀ j, j < len0 → w.cell? ⟨b, off + j, none⟩ = some (.int .u32 ((Z[j]?.getD 0 : Nat) : Int)))
    (hX : X.length = len1) (hX2 : ∀ x ∈ X, x < 2 ^ 64)
    (hsrc : 0 < len1 → ∃ ad, a1 = some ad ∧ ∀ j v, (vals X)[j]? = some v → w.cell? (ad.add j) = some v)
    (hm1 : len1 ≤ m) (hm2 : (maxTo (idsOf Z) + 63) / 64 ≤ m) (hm : (len1 < (maxTo (idsOf Z) + 63) / 64 ∧ m ≤ (maxTo (idsOf Z) + 63) / 64) ∨ ((maxTo (idsOf Z) + 63) / 64 ≤ len1 ∧ m ≤ len1)) :
    Calls Ybaf.prog 3 #[.slice a0 len0 cap0, .slice a1 len1 cap1] w fun e w' => e = .returned (.bool true) ∧ Below w.heap.size w w' := by
  obtain ⟨i0, hi, hz0, hz1, hz2⟩ := info_parts Ybaf.info30
  obtain ⟨i3, hi3, hz30, hz31, hz32⟩ := info_parts Ybaf.info3
  have hd : decide ((65536 : Int) < (len0 : Int)) = false := decide_eq_false (by omega)
  have HX : Hid (X.length = len1) := hX
  have HX2 : Hid (∀ x ∈ X, x < 2 ^ 64) := hX2
  have HS : Hid (0 < len1 → ∃ ad, a1 = some ad ∧ ∀ j v, (vals X)[j]? = some v → w.cell? (ad.add j) = some v) := hsrc
  have HV : Hid ((vals X).length = Nat.min len1 m) := by show _ = _; simp only [vals, List.length_map, hX]; exact (Nat.min_eq_left hm1).symm
  have HZ : Hid (Z.length = len0) := hZ
  have HI : Hid ((idsOf Z).length = len0) := (idsOf_length Z).trans hZ
  have HS0 : Hid (0 < len0 → ∃ b off, a0 = some ⟨b, off, none⟩ ∧ b < w.heap.size ∧ ∀ j, j < len0 → w.cell? ⟨b, off + j, none⟩ = some (.int .u32 ((Z[j]?.getD 0 : Nat) : Int))) := hsrc0
  have hmx : maxTo (idsOf Z) ≤ 4096 := maxTo_le _ 4096 (fun x hx => (idsOf_mem Z x hx).2)
  clear hX hX2 hsrc hZ hsrc0
  rcases hm with ⟨hn, hm3⟩ | ⟨hn, hm3⟩
  all_goals
    go_enter Ybaf.func3, Ybaf.ntmps3
    go_wp2_with (at_make; refine wpList_make_full _ rfl (.tmp 26) (.tmp 26) 24 rfl 0 3 i3 (.int .i64 0) 1 Ybaf.underlying24 hi3 hz30 hz31 .i64 .i64 _ _ len0 rfl rfl (by omega) (by omega) (by rw [hz32]; omega) (by unfold maxLen; omega) (by simp) ?_; intro w1 hown1 hgrow1; have HR1 : Hid (RowN .i64 3 w1 w.heap.size (List.replicate len0 0)) := row_made hown1; have HB1 : Hid (Below w.heap.size w w1) := (Below.refl _ _).grown hgrow1 (by simp) (by simp); clear hown1 hgrow1)
    go_loopw [6, 7] (fun mx i wr => ∃ k : Nat, k ≤ len0 ∧ i = .int .i64 k ∧ mx = .int .i64 (maxTo ((idsOf Z).take k) : Nat) ∧ RowN .i64 3 wr w.heap.size ((idsOf Z).take k ++ List.replicate (len0 - k) 0) ∧ w1.grownBy wr (some w.heap.size)) (fun _ i _ => len0 - (intOf i).toNat)
    case atStart => exact ⟨0, Nat.zero_le _, rfl, rfl, HR1.out, grownBy_refl _ _⟩
    case round =>
      obtain ⟨k, hk, rfl, rfl, hr, hgr⟩ := hrel
      have HR : Hid (RowN .i64 3 wr w.heap.size ((idsOf Z).take k ++ List.replicate (len0 - k) 0)) := hr
      have HG : Hid (w1.grownBy wr (some w.heap.size)) := hgr
      by_cases hlt : k < len0
      · obtain ⟨b, off, ha0, hb, hcell⟩ := HS0.out (by omega)
        have hkI : k < (idsOf Z).length := by rw [HI.out]; exact hlt
        have hkZ : k < Z.length := by rw [HZ.out]; exact hlt
        have hrl : k < ((idsOf Z).take k ++ List.replicate (len0 - k) 0).length := by simp [HI.out]; omega
        have hc : wr.cell? ⟨b, off + k, none⟩ = some (.int .u32 ((Z[k]?.getD 0 : Nat) : Int)) := hgr.cell ((HB1.out.cell hb).trans (hcell k hlt)) (by simp; omega)
        have hcr := hr.cell k hrl
        have hfr := hr.frozen k
        clear hr hgr hcell
        subst ha0
        go_wp2
        · have ht : ((maxTo ((idsOf Z).take k) : Nat) : Int) < ((Z[k] : Nat) : Int) % 4096 + 1 := by assumption
          go_roundw
          case rel => exact ⟨k + 1, by omega, by go_num, by rw [max_hit Z k hkZ ht], row_filled k hkI HI.out HR.out _ (by rw [idsOf_get Z k hkZ hkI]; omega), grownBy_setCell HG.out _ _⟩
          case measure => simp [intOf]; omega
        · have ht : ((Z[k] : Nat) : Int) % 4096 + 1 ≤ ((maxTo ((idsOf Z).take k) : Nat) : Int) := by assumption
          go_roundw
          case rel => exact ⟨k + 1, by omega, by go_num, by rw [max_miss Z k hkZ ht], row_filled k hkI HI.out HR.out _ (by rw [idsOf_get Z k hkZ hkI]; omega), grownBy_setCell HG.out _ _⟩
          case measure => simp [intOf]; omega
      · obtain rfl : k = len0 := by omega
        have ht : (idsOf Z).take k = idsOf Z := List.take_of_length_le (by rw [HI.out]; exact Nat.le_refl _)
        rw [ht] at hr
        rw [Nat.sub_self, List.replicate_zero, List.append_nil] at hr
        rw [ht]
        clear ht HR
        have HR : Hid (RowN .i64 3 wr w.heap.size (idsOf Z)) := hr
        obtain ⟨nb, hnb1, hnb2⟩ : ∃ nb, nb ≤ (maxTo (idsOf Z) + 7) / 8 ∧ (maxTo (idsOf Z) + 7) / 8 ≤ nb := ⟨_, Nat.le_refl _, Nat.le_refl _⟩
        have hB1 : Below w.heap.size w wr := HB1.out.grown hgr (by have := HB1.out.size; omega) (by simp)
        have HBr : Hid (Below w.heap.size w wr) := hB1
        have hzr := hr.lt
        clear hr hgr hB1 HS0 HZ HR1 HB1 HG
        have HIM := idsOf_mem Z
        have HIm : Hid (∀ x ∈ idsOf Z, 1 ≤ x ∧ x ≤ 4096) := HIM
        have HLe : Hid (∀ x ∈ idsOf Z, x ≤ maxTo (idsOf Z)) := le_maxTo _
        clear HIM
        generalize idsOf Z = I at *
        go_wp2_with fail
        refine (newSet_any w.heap.size k I _ HR.out HI.out hs HIm.out nb hnb1 hnb2).mono ?_
        rintro e w2 ⟨rfl, hb2⟩
        have HSz : Hid ((strOf (bitsTo 8 (List.replicate nb 0) I)).size = nb) := by show _ = _; rw [strOf_size, bitsTo_length, List.length_replicate]
        have HSb : Hid (∀ j, byteAt (strOf (bitsTo 8 (List.replicate nb 0) I)) j = (bitsTo 8 (List.replicate nb 0) I)[j]?.getD 0) := strOf_byte _ (bitsTo_lt 8 I _ (by decide) (zeros_lt 8 nb))
        generalize strOf (bitsTo 8 (List.replicate nb 0) I) = s at *
        have hs1 : s.size ≤ nb := Nat.le_of_eq HSz.out
        have hs2 : nb ≤ s.size := Nat.le_of_eq HSz.out.symm
        have HIn2 : Hid (RowN .i64 3 w2 w.heap.size I) := HR.out.of_block (hb2.block _ hzr)
        have hz2w : w.heap.size < w2.heap.size := HIn2.out.lt
        have HBw2 : Hid (Below w.heap.size w w2) := HBr.out.trans (hb2.mono (by omega))
        clear hb2 HR HBr hzr
        go_wp2_with (first
          | (go_at_call 5; refine (words_any _ (by omega) _).mono ?_; rintro e w' ⟨rfl, rfl⟩)
          | (at_make; refine wpList_make_full _ rfl (.tmp 64) (.tmp 64) 23 rfl 0 30 i0 (.int .u64 0) 1 Ybaf.underlying23 hi hz0 hz1 .i64 .i64 _ _ m rfl rfl (by omega) (by omega) (by rw [hz2]; omega) (by unfold maxLen; omega) (by simp) ?_; intro w3 hown3 hgrow3; rw [World.size_alloc, World.size_alloc] at hown3; have HR3 : Hid (RowN .u64 30 w3 (w2.heap.size + 1 + 1) (List.replicate m 0)) := row_made hown3; have HB3 : Hid (Below (w2.heap.size + 1 + 1) ((w2.alloc (.cells #[.string s] 27)).alloc (.cells #[.string s] 27)) w3) := (Below.refl _ _).grown hgrow3 (by simp) (by simp); clear hown3 hgrow3)
          | (have _t := HR3; refine wpList_copy_splice rfl (.tmp 66) (.tmp 67) 23 23 rfl 30 Ybaf.underlying23 Ybaf.size30 _ _ _ _ _ _ rfl rfl (w2.heap.size + 1 + 1) 0 (vals (List.replicate m 0)) 30 HR3.out (vals X) HV.out (fun h => ⟨rfl, src_later HX.out HS.out (below_make HBw2.out HB3.out) h⟩) (by simp [vals, HX.out]; omega) (vals_one X) (w2.heap.size + 1 + 1) ((w2.alloc (.cells #[.string s] 27)).alloc (.cells #[.string s] 27)) HB3.out (Nat.le_refl _) ?_; intro w4 HG4 hB4; have HR4 : Hid (RowN .u64 30 w4 (w2.heap.size + 1 + 1) (X ++ List.replicate (m - X.length) 0)) := row_spliced (by rw [HX.out]; exact hm1) HG4.out; have HB4 : Hid (Below (w2.heap.size + 1 + 1) ((w2.alloc (.cells #[.string s] 27)).alloc (.cells #[.string s] 27)) w4) := hB4; clear HG4 hB4 _t HR3)
          | (at_make; refine wpList_make_full _ rfl (.tmp 69) (.tmp 69) 23 rfl 0 30 i0 (.int .u64 0) 1 Ybaf.underlying23 hi hz0 hz1 .i64 .i64 _ _ m rfl rfl (by omega) (by omega) (by rw [hz2]; omega) (by unfold maxLen; omega) (by simp) ?_; intro w5 hown5 hgrow5; have HR5 : Hid (RowN .u64 30 w5 w4.heap.size (List.replicate m 0)) := row_made hown5; have HB5 : Hid (Below w4.heap.size w4 w5) := (Below.refl _ _).grown hgrow5 (by simp) (by simp); clear hown5 hgrow5)
          | (have _t := HR5; refine wpList_copy_splice rfl (.tmp 71) (.tmp 72) 23 23 rfl 30 Ybaf.underlying23 Ybaf.size30 _ _ _ _ _ _ rfl rfl w4.heap.size 0 (vals (List.replicate m 0)) 30 HR5.out (vals X) HV.out (fun h => ⟨rfl, src_later HX.out HS.out (below_next HBw2.out HB4.out HB5.out) h⟩) (by simp [vals, HX.out]; omega) (vals_one X) w4.heap.size w4 HB5.out (Nat.le_refl _) ?_; intro w6 HG6 hB6; have HR6 : Hid (RowN .u64 30 w6 w4.heap.size (X ++ List.replicate (m - X.length) 0)) := row_spliced (by rw [HX.out]; exact hm1) HG6.out; have HB6 : Hid (Below w4.heap.size w4 w6) := hB6; clear HG6 hB6 _t HR5))
        have hgW := HR4.out.lt
        have HRW : Hid (RowN .u64 30 w6 (w2.heap.size + 1 + 1) (X ++ List.replicate (m - X.length) 0)) := HR4.out.of_block (HB6.out.block _ hgW)
        have HIn6 : Hid (RowN .i64 3 w6 w.heap.size I) := (((HIn2.out.alloc _).alloc _).of_block (HB4.out.block _ (by omega))).of_block (HB6.out.block _ (by omega))
        have HB46 : Hid (Below (w2.heap.size + 1 + 1) ((w2.alloc (.cells #[.string s] 27)).alloc (.cells #[.string s] 27)) w6) := HB4.out.trans (HB6.out.mono (by omega))
        have HBw6 : Hid (Below w.heap.size w w6) := below_make HBw2.out HB46.out
        have HXL : Hid ((X ++ List.replicate (m - X.length) 0).length = m) := by show _ = _; simp only [List.length_append, List.length_replicate, HX.out]; omega
        have HX3 : Hid (∀ x ∈ X ++ List.replicate (m - X.length) 0, x < 2 ^ 64) := padded_lt HX2.out _
        have HIn : Hid (∀ x ∈ I, (x - 1) / 64 < m) := fun x hx => by have := HLe.out x hx; have := HIm.out x hx; omega
        have hc9 : w6.cell? ⟨w2.heap.size, 0, none⟩ = some (.string s) := (HB46.out.cell (by show w2.heap.size < _; omega)).trans (by simp)
        have HC9 : Hid (w6.cell? ⟨w2.heap.size, 0, none⟩ = some (.string s)) := hc9
        have HE := HR6
        clear HR6 HR4 HB4 HB5 HB6 HB3 HV HS HX2 HX hc9 HIn2 HB46 HBw2
        generalize X ++ List.replicate (m - X.length) 0 = X0 at *
        generalize hg4 : w4.heap.size = g at *
        generalize hg2 : w2.heap.size = g2 at *
        clear hg4 hg2
        go_loopw [14] (fun i wr => ∃ j : Nat, j ≤ k ∧ i = .int .i64 j ∧ RowN .u64 30 wr g (bitsTo 64 X0 (I.take j)) ∧ w6.grownBy wr (some g)) (fun i _ => k - (intOf i).toNat)
        case atStart => exact ⟨0, Nat.zero_le _, rfl, HE.out, grownBy_refl _ _⟩
        case round =>
          obtain ⟨j, hj, rfl, hr, hgr⟩ := hrel
          have HG : Hid (w6.grownBy wr (some g)) := hgr
          have HR : Hid (RowN .u64 30 wr g (bitsTo 64 X0 (I.take j))) := hr
          by_cases hjl : j < k
          · have hjI : j < I.length := by rw [HI.out]; exact hjl
            have hc := (HIn6.out.grown hgr (by simp; omega)).cell j hjI
            have hx := HIm.out I[j] (List.getElem_mem hjI)
            have hin := HIn.out _ (List.getElem_mem hjI)
            have hiL : (I[j] - 1) / 64 < (bitsTo 64 X0 (I.take j)).length := by rw [bitsTo_length, HXL.out]; exact hin
            have hc2 := hr.cell ((I[j] - 1) / 64) hiL
            have hf2 := hr.frozen ((I[j] - 1) / 64)
            clear hr hgr
            go_wp2
            go_roundw
            case rel => exact ⟨j + 1, by omega, by go_num, exp_row HX3.out j hjI hiL HR.out, grownBy_setCell HG.out _ _⟩
            case measure => simp [intOf]; omega
          · obtain rfl : j = k := by omega
            have ht : I.take j = I := List.take_of_length_le (by rw [HI.out]; exact Nat.le_refl _)
            rw [ht] at hr
            clear ht HR
            have hc0 : wr.cell? ⟨g2, 0, none⟩ = some (.string s) := hgr.cell HC9.out (by simp; omega)
            have HLaw : Hid (orTo s X0 s.size = bitsTo 64 X0 I) := words_of_bytes s X0 I nb HX3.out HSz.out (by rw [HXL.out]; omega) HSb.out (fun x hx => by have := HLe.out x hx; have := HIm.out x hx; omega)
            have HR : Hid (RowN .u64 30 wr g (bitsTo 64 X0 I)) := hr
            clear hr hgr
            go_wp2_with fail
            refine (orWords_any s (g2 + 1 + 1) m m X0 _ (by omega) (HRW.out.grown HG.out (by simp; omega)) HXL.out (by omega) (by omega) HX3.out).mono ?_
            rintro e w7 ⟨rfl, hr7, hgr7⟩
            rw [HLaw.out] at hr7
            have hrE := HR.out.grown hgr7 (by simp; omega)
            have hsz6 := HE.out.lt
            have hB7 : Below w.heap.size w w7 := by
              refine (HBw6.out.grown HG.out (by omega) ?_).grown hgr7 ?_ ?_
              · intro q hq; simp at hq; omega
              · have := HG.out.size; omega
              · intro q hq; simp at hq; omega
            have HY : Hid ((bitsTo 64 X0 I).length = m) := (bitsTo_length 64 I X0).trans HXL.out
            have H7 : Hid (RowN .u64 30 w7 (g2 + 1 + 1) (bitsTo 64 X0 I) ∧ RowN .u64 30 w7 g (bitsTo 64 X0 I) ∧ Below w.heap.size w w7) := ⟨hr7, hrE, hB7⟩
            clear hr7 hrE hB7 hgr7 hc0 HLaw HR
            generalize bitsTo 64 X0 I = Y at *
            go_wp2
            go_loopw [16] (fun i wr => ∃ q : Nat, q ≤ m ∧ i = .int .i64 q ∧ RowN .u64 30 wr (g2 + 1 + 1) Y ∧ RowN .u64 30 wr g Y ∧ Below w.heap.size w wr) (fun i _ => m - (intOf i).toNat)
            case atStart => exact ⟨0, Nat.zero_le _, rfl, H7.out⟩
            case round =>
              obtain ⟨q, hq, rfl, hr1, hr2, hbw⟩ := hrel
              have HH : Hid (RowN .u64 30 wr (g2 + 1 + 1) Y ∧ RowN .u64 30 wr g Y ∧ Below w.heap.size w wr) := ⟨hr1, hr2, hbw⟩
              by_cases hqm : q < m
              · have hqY : q < Y.length := by rw [HY.out]; exact hqm
                have hc1 := hr1.cell q hqY
                have hc2 := hr2.cell q hqY
                clear hr1 hr2 hbw
                go_wp2
                go_region
                all_goals
                  go_wp2
                  go_roundw
                  case rel => exact ⟨q + 1, by omega, by go_num, HH.out.1.drew, HH.out.2.1.drew, HH.out.2.2.drew⟩
                  case measure => simp [intOf]; omega
              · clear hr1 hr2 hbw
                go_wp2
                go_ret
                exact ⟨rfl, HH.out.2.2⟩

end Go.Proofs.YbulkdugeFmt
