/-
  THE WALK OF '(ProcSet).orWords' (function 6): it lays the bytes of the bitmap over the words: 'orTo'.
-/
import Derived.Test.YbulkdugeFmtRow
import Derived.Test.YbulkdugeFmtBits
import Derived.Test.YbulkdugeFmtProg
import Derived.WalkLawsBesides
import Derived.WalkSpells
import Derived.Outline
namespace Go.Proofs.YbulkdugeFmt
open Go.RowKit
set_option linter.unusedVariables false

theorem or_row {w : World} {g : Nat} {s : ByteArray} {L : List Nat} (hL : ∀ x ∈ L, x < 2 ^ 64) (k : Nat) (hk : k < s.size) (hi : k / 8 < (orTo s L k).length) (h : RowN .u64 30 w g (orTo s L k)) :
    RowN .u64 30 (w.setCell ⟨g, k / 8, none⟩ (.int .u64 (bits .or .u64 (((orTo s L k)[k / 8] : Nat) : Int) (IntKind.u64.wrap (IntKind.u64.wrap (s[k].toNat : Int) * 2 ^ (8 * (k % 8))))))) g (orTo s L (k + 1)) := by
  have hx : (orTo s L k)[k / 8] < 2 ^ 64 := orTo_lt s L hL k _ (List.getElem_mem hi)
  rw [byteAt_get s k hk, or_byte _ _ k hx (byteAt_lt s k)]
  have := h.set (k / 8) ((orTo s L k)[k / 8] ||| byteAt s k * 2 ^ (8 * (k % 8)))
  simpa [orTo, hi] using this

set_option maxHeartbeats 400000 in
theorem orWords_any (s : ByteArray) (g m cap : Nat) (L : List Nat) (w : World) (hs : s.size ≤ 1048576) (hrow : RowN .u64 30 w g L) (hm : L.length = m) (hlen : (s.size + 7) / 8 ≤ m) (hm2 : m ≤ 1048576) (hL : ∀ x ∈ L, x < 2 ^ 64) :
    Calls Ybaf.prog 6 #[.agg #[.string s], .slice (some ⟨g, 0, none⟩) m cap] w fun e w' => e = .returned (.tuple #[]) ∧ RowN .u64 30 w' g (orTo s L s.size) ∧ w.grownBy w' (some g) := by
  have HL : Hid (∀ x ∈ L, x < 2 ^ 64) := hL
  have HR : Hid (RowN .u64 30 w g L) := hrow
  have HM : Hid (L.length = m) := hm
  have hgw := hrow.lt
  clear hL hrow hm
  go_enter Ybaf.func6, Ybaf.ntmps6
  go_wp2
  go_loopw [8] (fun i wr => ∃ k : Nat, k ≤ s.size ∧ i = .int .i64 k ∧ RowN .u64 30 wr g (orTo s L k) ∧ (w.alloc (.cells #[.string s] 27)).grownBy wr (some g)) (fun i _ => s.size - (intOf i).toNat)
  case atStart => exact ⟨0, Nat.zero_le _, rfl, HR.out.alloc _, grownBy_refl _ _⟩
  case round =>
    obtain ⟨k, hk, rfl, hr, hgr⟩ := hrel
    have HG : Hid ((w.alloc (.cells #[.string s] 27)).grownBy wr (some g)) := hgr
    have HR2 : Hid (RowN .u64 30 wr g (orTo s L k)) := hr
    by_cases hlt : k < s.size
    · have hL : k / 8 < (orTo s L k).length := by rw [orTo_length, HM.out]; omega
      have hi : k / 8 < m := by omega
      have hc := hr.cell (k / 8) hL
      have hf := hr.frozen (k / 8)
      have hc0 : wr.cell? ⟨w.heap.size, 0, none⟩ = some (.string s) := by
        refine hgr.cell (by simp) ?_
        simp; omega
      clear hr hgr
      go_wp2
      go_region
      all_goals
        go_wp2
        go_roundw
        case rel => exact ⟨k + 1, by omega, by go_num, (or_row HL.out k hlt hL HR2.out).drew, grownBy_drew (grownBy_setCell HG.out _ _)⟩
        case measure => simp [intOf]; omega
    · go_wp2
      go_end0
      obtain rfl : k = s.size := by omega
      exact ⟨rfl, HR2.out, grownBy_trans (World.grownBy_alloc w _ _) HG.out⟩

end Go.Proofs.YbulkdugeFmt
