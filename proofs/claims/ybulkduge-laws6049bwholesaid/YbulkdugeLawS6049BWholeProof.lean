/-
  'Rows.LawS6049BWholeSaid' PROVED. The frame is the guide's own (proof-skeleton.mjs); the walk: YbulkdugeLawB.lean.
-/
import Derived.Test.YbulkdugeRows
import Derived.Test.YbulkdugeLawB
import Derived.WalkKit
import Derived.ProofKit
import Derived.OpenShut
import Derived.ShutString
import Derived.ChangeOld
import Derived.Below
namespace Go.Proofs.Ybulkduge.lawS6049BWhole
open Go.ChangeShapes Go.WideShapes Go.ChangeAt Go.RowKit
open Go.ChangeMaps (open_string shut_string)
set_option linter.unusedVariables false

theorem own : ownKnob Yba.prog.godebug = none := by kernel_rfl
theorem laidOut : laidOutB Yba.prog = true := by kernel_rfl

/-- WHAT THE WALK IS TOLD OF A SLICE OF INTEGERS THAT CAME IN: it is nil; or it leads to a row of 'cap' cells, the numbers 'zs' (the first 'len' are its elements, the rest its spare room), each fitting its kind. -/
def IsRow (k : IntKind) (w : World) (a : Option Addr) (len cap : Nat) (zs : List Int) : Prop :=
  (a = none ∧ len = 0 ∧ cap = 0 ∧ zs = []) ∨
  ∃ x, a = some x ∧ len ≤ cap ∧ cap ≤ maxLen ∧ zs.length = cap ∧ (∀ i, i < zs.length → w.cell? (x.add i) = some (.int k (zs.getD i 0))) ∧ ∀ n ∈ zs, (Lit.int k n).wf = true

/-! ### STEP 1: THE WALK -/
theorem len_le {w : World} {a : Option Addr} {len cap : Nat} {zs : List Int} (h : IsRow .u64 w a len cap zs) : len ≤ 9223372036854775807 := by
  rcases h with ⟨_, h, _, _⟩ | ⟨x, _, h1, h2, _⟩
  · omega
  · unfold maxLen at h2; omega

theorem view {w : World} {a : Option Addr} {len cap : Nat} {zs : List Int} (h : IsRow .u64 w a len cap zs) :
    ∃ X : List Nat, X.length = len ∧ (∀ x ∈ X, x < 2 ^ 64) ∧ (0 < len → ∃ ad, a = some ad ∧ ∀ j v, (vals X)[j]? = some v → w.cell? (ad.add j) = some v) := by
  rcases h with ⟨rfl, rfl, rfl, rfl⟩ | ⟨x, rfl, h1, h2, h3, h4, h5⟩
  · exact ⟨[], rfl, by simp, by simp⟩
  · refine ⟨(zs.take len).map Int.toNat, by simp [h3, h1], ?_, fun _ => ⟨x, rfl, ?_⟩⟩
    · intro y hy
      simp only [List.mem_map] at hy
      obtain ⟨z, hz, rfl⟩ := hy
      have := bounds_u64 (h5 z (List.mem_of_mem_take hz))
      omega
    · intro j v hv
      simp only [vals, List.map_map, List.getElem?_map, Option.map_eq_some_iff] at hv
      obtain ⟨z, hz, rfl⟩ := hv
      rw [List.getElem?_take] at hz
      split at hz
      · have hj : j < zs.length := by omega
        have hz' : zs[j] = z := by rw [List.getElem?_eq_getElem hj] at hz; simpa using hz
        have := bounds_u64 (h5 z (hz' ▸ List.getElem_mem hj))
        rw [h4 j hj]
        simp only [Function.comp, List.getD_eq_getElem?_getD, List.getElem?_eq_getElem hj, Option.getD_some, hz']
        rw [Int.toNat_of_nonneg this.1]
      · cases hz

theorem walk (a0 : ByteArray) (a1 : Option Addr) (len1 cap1 : Nat) (z1 : List Int) (w : World) (w0 : a0.size ≤ maxLen) (w1 : IsRow .u64 w a1 len1 cap1 z1) :
    Calls Yba.prog 4 #[.string a0, .slice a1 len1 cap1] w fun e w' => e = .returned (.bool true) ∧ Below w.heap.size w w' := by
  unfold maxLen at w0
  by_cases h : 1048576 < a0.size ∨ 1048576 < len1
  · exact lawB_long a0 a1 len1 cap1 w w0 (len_le w1) h
  · obtain ⟨X, h1, h2, h3⟩ := view w1
    by_cases hn : len1 < (a0.size + 7) / 8
    · exact lawB_short a0 a1 len1 cap1 ((a0.size + 7) / 8) X w (by omega) (by omega) h1 h2 h3 (by omega) (by omega) (.inl ⟨hn, by omega⟩)
    · exact lawB_short a0 a1 len1 cap1 len1 X w (by omega) (by omega) h1 h2 h3 (by omega) (by omega) (.inr ⟨by omega, by omega⟩)

/-! ### THE ROW's STEP: WRITTEN OUT: LEAVE IT -/
set_option maxRecDepth 100000 in
theorem lifted (os : Os) (started : os.Started) (H : Type) (enc : TypeId × Value → H) :
    ReturnsInHanded {} Yba.checked os 4 .any (Rows.lawS6049BWholeSpec.pre6 enc Yba.prog Yba.f4 Rows.lawS6049BWholeRow.domain false) (Rows.lawS6049BWholeSpec.post enc Yba.prog Yba.f4 false true false false) := by
  refine returnsInHanded_of_change (C := Yba.checked) own started (by kernel_rfl) Yba.func4
    (ChangeSpec.witness6 (enc := enc) (C := Yba.checked) false ⟨#[], #[.string ByteArray.empty, .slice none 0 0], []⟩ 8 (by kernel_rfl) (by kernel_rfl) (by kernel_rfl) (by kernel_rfl)) ?_
  intro W base args ds gs before hval0 hW hcnd _
  have hval : ∀ (j : Nat) t v, Yba.f4.params[j]? = some t → args[j]? = some v → Value.okWide Yba.prog W .any base t v := hval0
  have hW' := hW
  obtain ⟨p, q, hA0, hV, rfl, hfz, hnd⟩ := hW
  have hA : DataW.TrodAll enc Yba.prog W 0 (fun _ => true) true Yba.f4.params.toList args.toList ds p := hA0
  rw [Yba.params4] at hA hval
  obtain ⟨v0, vs0, d0, ds0, p0, q0, hargs, rfl, rfl, h0, r0⟩ := trodAll_cons hA
  obtain ⟨v1, vs1, d1, ds1, p1, q1, rfl, rfl, rfl, h1, r1⟩ := trodAll_cons r0
  obtain ⟨rfl, rfl, rfl⟩ := trodAll_nil r1
  obtain rfl : args = #[v0, v1] := by cases args; simp_all
  obtain ⟨rfl, rfl⟩ := trodVars_none hV
  obtain ⟨a0, rfl, rfl, rfl, w0⟩ := open_string Yba.underlying9 (hval 0 9 v0 rfl rfl) h0
  obtain ⟨a1, len1, cap1, rfl⟩ := okWide_slice Yba.underlying43 (hval 1 43 v1 rfl rfl)
  have k1 := h1
  have lt1 : ∀ x ∈ p1, x.block < W.heap.size := by obtain ⟨m, hm⟩ := k1; exact DataW.trod_lt m _ _ _ hm
  obtain ⟨z1, w1⟩ : ∃ zs, IsRow .u64 W a1 len1 cap1 zs := by
    obtain ⟨fuel, hf⟩ := h1
    rcases open_ints Yba.underlying43 Yba.underlying46 (by kernel_rfl) hf with ⟨hcs, _⟩ | ⟨x, l, c, zs, hcs, _, hl, hm, hz, _, hcell, hwz⟩
    · simp [Value.cells] at hcs
      obtain ⟨rfl, rfl, rfl⟩ := hcs
      exact ⟨[], .inl ⟨rfl, rfl, rfl, rfl⟩⟩
    · simp [Value.cells] at hcs
      obtain ⟨rfl, rfl, rfl⟩ := hcs
      exact ⟨zs, .inr ⟨_, rfl, hl, hm, by simpa using hz, hcell, hwz⟩⟩
  clear hA0 hval0
  refine (walk a0 a1 len1 cap1 z1 W w0 w1).mono fun e W' ⟨he, bel⟩ => ?_
  subst he
  exact ⟨_, rfl, _, _, _, [], _, [], hW', trodAll_mk1 (shut_bool Yba.underlying4 _), (trodAll_cons_mk (shut_string Yba.underlying9 w0) (trodAll_cons_mk (Below.trod laidOut (by kernel_rfl) (of_decide_eq_true (by kernel_rfl)) k1 bel lt1) trodAll_mk0)), rfl, bel.frame _, fun h => by cases h⟩

theorem over : Rows.lawS6049BWholeRow.holds Yba.pinned (OpenSpec.ofChange Rows.lawS6049BWholeSpec) :=
  OpenClaim.holds_of_wide 4 Yba.f4 rfl rfl rfl rfl rfl rfl rfl ⟨rfl, rfl, rfl, rfl, rfl⟩ rfl rfl rfl rfl rfl (by kernel_rfl) Yba.func4 (by kernel_rfl)
    (of_decide_eq_true (by kernel_rfl)) (by unfold Func.isWrapper; first | (rw [if_pos (by decide +kernel)]; kernel_rfl) | (rw [if_neg (by decide +kernel)]; exact ⟨rfl, rfl⟩))
    (fun os started H enc _ => lifted os started H enc)

/-- ████ THE STATEMENT ████ -/
theorem proved : Rows.LawS6049BWholeSaid := over
end Go.Proofs.Ybulkduge.lawS6049BWhole
namespace Go.Proofs.Ybulkduge
theorem lawS6049BWhole_proved : Rows.LawS6049BWholeSaid := lawS6049BWhole.proved
#print axioms lawS6049BWhole_proved
end Go.Proofs.Ybulkduge
