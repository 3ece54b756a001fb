/-
  THE LIST's CONTRACTS BY ITS ITEMS ALONE: 'LL w L F c ms': at block L a messageList of the items ms, its memory the blocks F, at most c blocks of messages.
-/
import Derived.Test.YbulkdugePushAny
namespace Go.Proofs.Ybulkduge
open Go.RowKit
set_option linter.unusedVariables false

def LL (w : World) (L : Nat) (F : List Nat) (c : Nat) (ms : List Msg) : Prop := ∃ st, LI w L st ∧ items st = ms ∧ foot L st = F ∧ st.blks.length ≤ c

section
variable {w w' : World} {L c : Nat} {F : List Nat} {ms : List Msg}
theorem LL.of_block (h : LL w L F c ms) (hb : ∀ k ∈ F, w'.heap[k]? = w.heap[k]?) : LL w' L F c ms := by
  obtain ⟨st, h1, h2, h3, h4⟩ := h
  exact ⟨st, h1.of_block (by rw [h3]; exact hb), h2, h3, h4⟩
theorem LL.lt (h : LL w L F c ms) : ∀ k ∈ F, k < w.heap.size := by
  obtain ⟨st, h1, h2, h3, h4⟩ := h
  rw [← h3]
  exact h1.foot_lt
theorem LL.outside {S : List Nat} (h : LL w L F c ms) (ho : Outside S w w') (hn : ∀ k ∈ F, k ∉ S) : LL w' L F c ms :=
  h.of_block fun k hk => ho.block k (h.lt k hk) (hn k hk)
theorem LL.below {B : Nat} (h : LL w L F c ms) (ho : Below B w w') (hn : ∀ k ∈ F, k < B) : LL w' L F c ms :=
  h.of_block fun k hk => ho.block k (hn k hk)
theorem LL.memL (h : LL w L F c ms) : L ∈ F := by
  obtain ⟨st, h1, h2, h3, h4⟩ := h
  rw [← h3]
  exact mem_foot_L
theorem LL.count (h : LL w L F c ms) : w.cell? ⟨L, 2, none⟩ = some (.int .i64 (ms.length : Nat)) := by
  obtain ⟨st, h1, h2, h3, h4⟩ := h
  rw [← h2, h1.len]
  exact h1.c2
theorem LL.tag (h : LL w L F c ms) : ∃ a b d e, w.heap[L]? = some (.cells #[a, b, d, e] 29 (0, 0)) := by
  obtain ⟨st, h1, h2, h3, h4⟩ := h
  exact ⟨_, _, _, _, h1.hd⟩
theorem LL.mono {c' : Nat} (h : LL w L F c ms) (hc : c ≤ c') : LL w L F c' ms := by
  obtain ⟨st, h1, h2, h3, h4⟩ := h
  exact ⟨st, h1, h2, h3, by omega⟩

/-- What a call on the list leaves. -/
def Turned (w w' : World) (L : Nat) (F : List Nat) (c : Nat) (ms : List Msg) : Prop :=
  ∃ F', LL w' L F' c ms ∧ Outside F w w' ∧ (∀ k ∈ F', k ∈ F ∨ w.heap.size ≤ k)

theorem push_ll (h : LL w L F c ms) (m : Msg) (h1 : ms.length ≤ 800000000) (h2 : c ≤ 800000000) :
    Calls Yba.prog 7 #[.pointer (some ⟨L, 0, none⟩), .agg #[.int .i64 m.1, .int .i64 m.2.1, .int .i64 m.2.2, .nilIface]] w fun e w' => e = .returned (.tuple #[]) ∧ Turned w w' L F (c + 1) (ms ++ [m]) := by
  obtain ⟨st, g1, g2, g3, g4⟩ := h
  have hl := g1.len
  rw [g2] at hl
  refine (push_any g1 m (by omega) (by omega)).mono ?_
  rintro e w' ⟨he, st', a1, a2, a3, a4, a5⟩
  rw [g3] at a3 a4
  exact ⟨he, foot L st', ⟨st', a1, by rw [a2, g2], rfl, by omega⟩, a3, a4⟩

theorem pop_ll (h : LL w L F c ms) (h0 : 1 ≤ ms.length) (h1 : ms.length ≤ 800000000) :
    Calls Yba.prog 8 #[.pointer (some ⟨L, 0, none⟩)] w fun e w' => (∃ v, e = .returned v) ∧ Turned w w' L F (c + 1) ms.tail := by
  obtain ⟨st, g1, g2, g3, g4⟩ := h
  have hl := g1.len
  rw [g2] at hl
  refine (pop_any g1 (by omega) (by omega)).mono ?_
  rintro e w' ⟨he, st', a1, a2, a3, a4, a5⟩
  rw [g3] at a3 a4
  exact ⟨he, foot L st', ⟨st', a1, by rw [a2, g2], rfl, by omega⟩, a3, a4⟩

theorem take_ll (h : LL w L F c ms) (i : Nat) (hi : i < ms.length) (h1 : ms.length ≤ 800000000) :
    Calls Yba.prog 9 #[.pointer (some ⟨L, 0, none⟩), .int .i64 i] w fun e w' => (∃ v, e = .returned v) ∧ Turned w w' L F c ((ms.set i (ms[ms.length - 1]?.getD zeroM)).take (ms.length - 1)) := by
  obtain ⟨st, g1, g2, g3, g4⟩ := h
  have hl := g1.len
  have hf := g1.first_le
  rw [g2] at hl
  refine (take_any g1 i (by omega) (by omega)).mono ?_
  rintro e w' ⟨he, a1, a2⟩
  rw [g3] at a2
  have hft : foot L (takeSt st i) = F := by
    show foot L (put (put st _ _) _ _) = _
    rw [foot_put, foot_put, g3]
  have hlt : st.n - 1 < (items st).length := by rw [g1.len]; omega
  refine ⟨he, F, ⟨takeSt st i, a1, ?_, hft, ?_⟩, a2, fun k hk => .inl hk⟩
  · rw [items_take g1 i (by omega) hlt]
    subst g2
    rw [hl, List.getElem?_eq_getElem hlt, Option.getD_some]
  · show (putB (putB st.blks _ _) _ _).length ≤ c
    rw [putB_length, putB_length]
    exact g4

theorem at_ll (h : LL w L F c ms) (i : Nat) (hi : i < ms.length) (h1 : ms.length ≤ 800000000) :
    ∃ g p, Calls Yba.prog 21 #[.pointer (some ⟨L, 0, none⟩), .int .i64 i] w (fun e w' => e = .returned (.pointer (some ⟨g, p * 4, none⟩)) ∧ w' = w) ∧
      w.cell? ⟨g, p * 4, none⟩ = some (.int .i64 (ms[i]).1) ∧ w.cell? ⟨g, p * 4 + 1, none⟩ = some (.int .i64 (ms[i]).2.1) ∧ w.cell? ⟨g, p * 4 + 2, none⟩ = some (.int .i64 (ms[i]).2.2) ∧ w.cell? ⟨g, p * 4 + 3, none⟩ = some .nilIface := by
  obtain ⟨st, g1, g2, g3, g4⟩ := h
  have hl := g1.len
  have hf := g1.first_le
  have hfit := g1.fits
  rw [g2] at hl
  have hj : st.first + i < (places st.blks).length := by omega
  have hat := at_any g1 i (by omega) (by simpa using hj) (by simp; omega)
  rw [Int.toNat_natCast] at hat
  obtain ⟨a0, a1, a2, a3⟩ := g1.cells _ hj
  have em : mAt st (st.first + i) = ms[i] := by
    subst g2
    simp [mAt, items, hj]
  rw [em] at a0 a1 a2
  exact ⟨_, _, hat, a0, a1, a2, a3⟩
end

end Go.Proofs.Ybulkduge
