/-
  'Rows.LawS6059BWholeSaid' PROVED. The frame is the guide's own (proof-skeleton.mjs); the walk: YbulkduloLaw.lean.
-/
import Derived.Test.YbulkduloRows
import Derived.Test.YbulkduloLaw
import Derived.WalkKit
import Derived.ProofKit
import Derived.OpenShut
import Derived.ChangeOld
import Derived.Below
import Derived.SliceStrings
import Derived.ChangeMaps5
import Derived.ChangeArms
namespace Go.Proofs.Ybulkdulo.lawS6059BWhole
open Go.ChangeShapes Go.WideShapes Go.ChangeAt Go.RowKit
open Go.ChangeMaps (open_string shut_string)
set_option linter.unusedVariables false

theorem own : ownKnob Yba.prog.godebug = none := by kernel_rfl
theorem laidOut : laidOutB Yba.prog = true := by kernel_rfl

/-- The argument of strings, as it lies. -/
theorem opened {H : Type} {enc : TypeId × Value → H} {W : World} {a : Option Addr} {len cap : Nat} {d : DataW H} {p : List MemPlace}
    (h : DataW.Trod enc Yba.prog W 0 (fun _ => true) true 22 (.slice a len cap) d p) : len ≤ maxLen ∧ ∃ sx, Src W a len sx := by
  obtain ⟨fuel, hf⟩ := h
  have hc : Yba.prog.cellsOf 9 = 1 := by kernel_rfl
  rcases open_strings Yba.underlying22 Yba.underlying9 hc hf with ⟨hcs, hx⟩ | ⟨x, len', cap', ss, hcs, _, hl, hm, hz, hx, hcell, hsz⟩
  · simp [Value.cells] at hcs
    obtain ⟨rfl, rfl, rfl⟩ := hcs
    exact ⟨by unfold maxLen; omega, fun _ => ByteArray.empty, fun h => absurd h (Nat.lt_irrefl _)⟩
  · simp [Value.cells] at hcs
    obtain ⟨rfl, rfl, rfl⟩ := hcs
    rw [if_pos rfl] at hz
    refine ⟨Nat.le_trans hl hm, fun i => ss.getD i ByteArray.empty, fun h0 => ?_⟩
    obtain ⟨b, off, s⟩ := x
    have c0 := hcell 0 (by omega)
    have hs := World.cell?_spot c0
    have hb := World.block_lt_of_cell? _ _ c0
    simp [Addr.add] at hs hb
    subst hs
    refine ⟨b, off, rfl, hb, fun j hj => ⟨?_, ?_⟩⟩
    · have hj' : j < ss.length := by omega
      have e : ss.getD j ByteArray.empty = ss[j] := by simp [List.getD, hj']
      show (ss.getD j ByteArray.empty).size ≤ maxLen
      rw [e]
      exact hsz _ (List.getElem_mem hj')
    · have := hcell j (by omega)
      simp only [add_plain] at this
      exact this

theorem walk (p : ByteArray) (a : Option Addr) (len cap : Nat) (w : World) (hp : p.size ≤ maxLen) (h : len ≤ maxLen ∧ ∃ sx, Src w a len sx) :
    Calls Yba.prog 3 #[.string p, .slice a len cap] w fun e w' => e = .returned (.bool true) ∧ Below w.heap.size w w' := by
  obtain ⟨hl, sx, hs⟩ := h
  unfold maxLen at hp hl
  by_cases h1 : 1048576 < len
  · exact law_long p a len cap w (by omega) (by omega) h1
  · by_cases h2 : 1048576 < p.size
    · exact law_wide p a len cap w (by omega) (by omega) h2
    · exact law_main p a len cap sx w (by omega) (by omega) hs

set_option maxRecDepth 100000 in
theorem lifted (os : Os) (started : os.Started) (H : Type) (enc : TypeId × Value → H) :
    ReturnsInHanded {} Yba.checked os 3 .any (Rows.lawS6059BWholeSpec.pre6 enc Yba.prog Yba.f3 Rows.lawS6059BWholeRow.domain false) (Rows.lawS6059BWholeSpec.post enc Yba.prog Yba.f3 false true false false) := by
  refine returnsInHanded_of_change (C := Yba.checked) own started (by kernel_rfl) Yba.func3
    (ChangeSpec.witness6 (enc := enc) (C := Yba.checked) false ⟨#[], #[.string ByteArray.empty, .slice none 0 0], []⟩ 8 (by kernel_rfl) (by kernel_rfl) (by kernel_rfl) (by kernel_rfl)) ?_
  intro W base args ds gs before hval0 hW hcnd _
  have hval : ∀ (j : Nat) t v, Yba.f3.params[j]? = some t → args[j]? = some v → Value.okWide Yba.prog W .any base t v := hval0
  have hW' := hW
  obtain ⟨p, q, hA0, hV, rfl, hfz, hnd⟩ := hW
  have hA : DataW.TrodAll enc Yba.prog W 0 (fun _ => true) true Yba.f3.params.toList args.toList ds p := hA0
  rw [Yba.params3] at hA hval
  obtain ⟨v0, vs0, d0, ds0, p0, q0, hargs, rfl, rfl, h0, r0⟩ := trodAll_cons hA
  obtain ⟨v1, vs1, d1, ds1, p1, q1, rfl, rfl, rfl, h1, r1⟩ := trodAll_cons r0
  obtain ⟨rfl, rfl, rfl⟩ := trodAll_nil r1
  obtain rfl : args = #[v0, v1] := by cases args; simp_all
  obtain ⟨rfl, rfl⟩ := trodVars_none hV
  obtain ⟨s0, rfl, rfl, rfl, w0⟩ := open_string Yba.underlying9 (hval 0 9 v0 rfl rfl) h0
  obtain ⟨a1, len1, cap1, rfl⟩ := okWide_slice Yba.underlying22 (hval 1 22 v1 rfl rfl)
  have lt1 : ∀ x ∈ p1, x.block < W.heap.size := by obtain ⟨m, hm⟩ := h1; exact DataW.trod_lt m _ _ _ hm
  clear hA0 hval0
  refine (walk s0 a1 len1 cap1 W w0 (opened h1)).mono fun e W' ⟨he, bel⟩ => ?_
  subst he
  exact ⟨_, rfl, _, _, _, [], _, [], hW', trodAll_mk1 (shut_bool Yba.underlying4 _), (trodAll_cons_mk (shut_string Yba.underlying9 w0) (trodAll_cons_mk (Below.trod laidOut (by kernel_rfl) (of_decide_eq_true (by kernel_rfl)) h1 bel lt1) trodAll_mk0)), rfl, bel.frame _, fun h => by cases h⟩

theorem over : Rows.lawS6059BWholeRow.holds Yba.pinned (OpenSpec.ofChange Rows.lawS6059BWholeSpec) :=
  OpenClaim.holds_of_wide 3 Yba.f3 rfl rfl rfl rfl rfl rfl rfl ⟨rfl, rfl, rfl, rfl, rfl⟩ rfl rfl rfl rfl rfl (by kernel_rfl) Yba.func3 (by kernel_rfl)
    (of_decide_eq_true (by kernel_rfl)) (by unfold Func.isWrapper; first | (rw [if_pos (by decide +kernel)]; kernel_rfl) | (rw [if_neg (by decide +kernel)]; exact ⟨rfl, rfl⟩))
    (fun os started H enc _ => lifted os started H enc)

/-- ████ THE STATEMENT ████ -/
theorem proved : Rows.LawS6059BWholeSaid := over
end Go.Proofs.Ybulkdulo.lawS6059BWhole
namespace Go.Proofs.Ybulkdulo
theorem lawS6059BWhole_proved : Rows.LawS6059BWholeSaid := lawS6059BWhole.proved
#print axioms lawS6059BWhole_proved
end Go.Proofs.Ybulkdulo
