/-
  'Rows.LawS6059AWholeCardSaid' PROVED. The frame is the guide's own; the walk: YbulkduloDoorLaw.lean; the tie: given.
-/
import Derived.Test.YbulkduloDoorRows
import Derived.Test.YbulkduloDoorTie
import Derived.Test.YbulkduloDoorCards
import Derived.Test.YbulkduloDoorLaw
import Derived.WalkKit
import Derived.ProofKit
import Derived.OpenShut
import Derived.ChangeOld
import Derived.Below
import Derived.SliceStrings
import Derived.ChangeMaps5
import Derived.ChangeArms
import Derived.LaidLaws
import Derived.Handed
import Derived.Stop.LaidErr
import Derived.Lib.LaidTab
import Derived.SevenTiedAt
namespace Go.Proofs.YbulkduloDoor.lawS6059AWhole
open Go.ChangeShapes Go.WideShapes Go.ChangeAt Go.RowKit
set_option linter.unusedVariables false

theorem own : ownKnob Ybad.prog.godebug = none := by kernel_rfl
theorem laidOut : laidOutB Ybad.prog = true := by kernel_rfl

/-- From 'laid' to the table that Itoa reads. -/
theorem tab_of_laid {W : World} (h : laidMet Ybad.prog Rows.lawS6059AWholeRow.laid W) : Lib.TabIs Ybad.prog W "internal/strconv.uint64pow10" .u64 Lib.pow10Tab := by
  have h3 : laidMet Ybad.prog [("internal/strconv.uint64pow10", Rows.laid_internal_strconv_uint64pow10)] W := Go.laidMet.tail (Go.laidMet.tail h)
  have e : (Rows.laid_internal_strconv_uint64pow10 : DataW Unit) = Lib.tabData .u64 Lib.pow10Tab := by kernel_rfl
  rw [e] at h3
  exact Lib.tabIs_of_head (g := 0) (t := 40) (e := 30) (n := 20) (by kernel_rfl) (by kernel_rfl) Ybad.underlying40 Ybad.underlying30 (by kernel_rfl) (by kernel_rfl) h3

/-- A datum's cells, where it is an array of integers. -/
def vals : DataW Unit → Array Value
  | .agg ds => (ds.map fun
    | .lit (.int k z) => Value.int k z
    | _ => undef).toArray
  | _ => #[]
/-- A start that fits: the three tables as the text lays them. -/
noncomputable def laidWorld (os : Os) : World :=
  let w0 := World.holding Ybad.prog os ⟨#[], #[], []⟩
  { w0 with heap := ((w0.heap.modify 0 fun
      | .cells _ t frozen => .cells (vals Rows.laid_internal_strconv_uint64pow10) t frozen
      | o => o).modify 1 fun
      | .cells _ t frozen => .cells (vals Rows.laid_math_bits_deBruijn32tab) t frozen
      | o => o).modify 2 fun
      | .cells _ t frozen => .cells (vals Rows.laid_math_bits_deBruijn64tab) t frozen
      | o => o }
set_option maxRecDepth 1000000 in
theorem laid_met (os : Os) (args : Array Value) : laidMet Ybad.prog Rows.lawS6059AWholeRow.laid ((laidWorld os).forCall (fun _ _ => 0) ⟨#[], args, []⟩).memory :=
  laidMet_of_run' 8 (by kernel_rfl) (by kernel_rfl)

/-- The argument of words, as it lies. -/
theorem opened {H : Type} {enc : TypeId × Value → H} {W : World} {a : Option Addr} {len cap : Nat} {d : DataW H} {p : List MemPlace}
    (h : DataW.Trod enc Ybad.prog W 0 (fun _ => true) true 22 (.slice a len cap) d p) : len ≤ maxLen ∧ ∃ sx, Src W a len cap sx := by
  obtain ⟨fuel, hf⟩ := h
  have hc : Ybad.prog.cellsOf 9 = 1 := by kernel_rfl
  rcases open_strings Ybad.underlying22 Ybad.underlying9 hc hf with ⟨hcs, hx⟩ | ⟨x, len', cap', ss, hcs, _, hl, hm, hz, hx, hcell, hsz⟩
  · simp [Value.cells] at hcs
    obtain ⟨rfl, rfl, rfl⟩ := hcs
    exact ⟨by unfold maxLen; omega, fun _ => ByteArray.empty, fun _ => ⟨rfl, rfl⟩, fun h => absurd h (Nat.lt_irrefl _)⟩
  · simp [Value.cells] at hcs
    obtain ⟨rfl, rfl, rfl⟩ := hcs
    rw [if_pos rfl] at hz
    refine ⟨Nat.le_trans hl hm, fun i => ss.getD i ByteArray.empty, ⟨fun h => (by cases h), fun h0 => ?_⟩⟩
    obtain ⟨b, off, s⟩ := x
    have c0 := hcell 0 (by omega)
    have hs := World.cell?_spot c0
    have hb := World.block_lt_of_cell? _ _ c0
    simp [Addr.add] at hs hb
    subst hs
    refine ⟨b, off, rfl, hb, fun j hj => ?_⟩
    have := hcell j (by omega)
    simp only [add_plain] at this
    exact this

theorem walk (n : Int) (a : Option Addr) (len cap : Nat) (w : World) (hn : -9223372036854775808 ≤ n ∧ n ≤ 9223372036854775807) (h : len ≤ maxLen ∧ ∃ sx, Src w a len cap sx) (htab : Lib.TabIs Ybad.prog w "internal/strconv.uint64pow10" .u64 Lib.pow10Tab) :
    Calls Ybad.prog 3 #[.int .i64 n, .slice a len cap] w fun e w' => e = .returned (.bool true) ∧ Below w.heap.size w w' := by
  obtain ⟨hl, sx, hs⟩ := h
  unfold maxLen at hl
  by_cases h1 : 1048576 < len
  · exact law_long n a len cap w (by omega) h1
  · exact law_main n a len cap sx w hn.1 hn.2 (by omega) hs htab

set_option maxRecDepth 100000 in
theorem lifted (os : Os) (started : os.Started) (H : Type) (enc : TypeId × Value → H) :
    ReturnsInHanded {} Ybad.checked os 3 .any (fun w args => (Rows.lawS6059AWholeSpec.pre enc Ybad.prog Ybad.f3 Rows.lawS6059AWholeRow.domain false w args ∧ laidMet Ybad.prog Rows.lawS6059AWholeRow.laid w) ∧ sizedMet enc Ybad.prog Ybad.f3 (OpenSpec.ofChange Rows.lawS6059AWholeSpec) false w args)
      (Rows.lawS6059AWholeSpec.post enc Ybad.prog Ybad.f3 false true false false) := by
  refine returnsInHanded_of_change_and (C := Ybad.checked) (X := fun w _ => laidMet Ybad.prog Rows.lawS6059AWholeRow.laid w) (fun _ _ _ hh h => h.of_heap hh) own started (by kernel_rfl) Ybad.func3
    (ChangeSpec.witness_at (enc := enc) (C := Ybad.checked) (os := os) (X := fun w _ => laidMet Ybad.prog Rows.lawS6059AWholeRow.laid w) false (laidWorld os) #[.int .i64 0, .slice none 0 0] 8 rfl (by kernel_rfl) (by kernel_rfl) (by kernel_rfl) (by kernel_rfl) (by kernel_rfl) (laid_met os _)) ?_
  intro W base args ds gs before hval0 hW hcnd _ hL _
  have hval : ∀ (j : Nat) t v, Ybad.f3.params[j]? = some t → args[j]? = some v → Value.okWide Ybad.prog W .any base t v := hval0
  have hW' := hW
  obtain ⟨p, q, hA0, hV, rfl, hfz, hnd⟩ := hW
  have hA : DataW.TrodAll enc Ybad.prog W 0 (fun _ => true) true Ybad.f3.params.toList args.toList ds p := hA0
  rw [Ybad.params3] at hA hval
  obtain ⟨v0, vs0, d0, ds0, p0, q0, hargs, rfl, rfl, h0, r0⟩ := trodAll_cons hA
  obtain ⟨v1, vs1, d1, ds1, p1, q1, rfl, rfl, rfl, h1, r1⟩ := trodAll_cons r0
  obtain ⟨rfl, rfl, rfl⟩ := trodAll_nil r1
  obtain rfl : args = #[v0, v1] := by cases args; simp_all
  obtain ⟨rfl, rfl⟩ := trodVars_none hV
  obtain ⟨n0, rfl, rfl, rfl, w0⟩ := open_int Ybad.underlying3 (hval 0 3 v0 rfl rfl) h0
  obtain ⟨a1, len1, cap1, rfl⟩ := okWide_slice Ybad.underlying22 (hval 1 22 v1 rfl rfl)
  have lt1 : ∀ x ∈ p1, x.block < W.heap.size := by obtain ⟨m, hm⟩ := h1; exact DataW.trod_lt m _ _ _ hm
  clear hA0 hval0
  have b0 := bounds_i64 w0
  refine (walk n0 a1 len1 cap1 W ⟨by omega, by omega⟩ (opened h1) (tab_of_laid hL)).mono fun e W' ⟨he, bel⟩ => ?_
  subst he
  exact ⟨_, rfl, _, _, _, [], _, [], hW', trodAll_mk1 (shut_bool Ybad.underlying4 _), (trodAll_cons_mk (shut_int Ybad.underlying3 w0) (trodAll_cons_mk (Below.trod laidOut (by kernel_rfl) (of_decide_eq_true (by kernel_rfl)) h1 bel lt1) trodAll_mk0)), rfl, bel.frame _, fun h => by cases h⟩

theorem over : Rows.lawS6059AWholeRow.holds Ybad.pinned (OpenSpec.ofChange Rows.lawS6059AWholeSpec) :=
  OpenClaim.holds_of_wide 3 Ybad.f3 rfl rfl rfl rfl rfl rfl rfl ⟨rfl, rfl, rfl, rfl, rfl⟩ rfl rfl rfl rfl rfl (by kernel_rfl) Ybad.func3 (by kernel_rfl)
    (of_decide_eq_true (by kernel_rfl)) (by unfold Func.isWrapper; first | (rw [if_pos (by decide +kernel)]; kernel_rfl) | (rw [if_neg (by decide +kernel)]; exact ⟨rfl, rfl⟩))
    (fun os started H enc _ => lifted os started H enc)

/-- ████ THE STATEMENT: THE TIED CARD ████ -/
theorem proved : Rows.LawS6059AWholeCardSaid :=
  Claim7.holds_tied_plain_at .later [] [.data, .data, .data] true (true, "619f976ad0e7fe985b0261af73e9dd883fb213638aed2848f67f249c32f49f92") false
    over (fun _ h => by cases h) (by kernel_rfl) (fun _ h => by cases h) lawS6059AWhole_row_tie rfl ⟨rfl, rfl⟩ (by kernel_rfl) rfl
    (fun f fn hf hfn => by
      obtain rfl : f = 3 := Option.some.inj ((show Ybad.prog.funcNamed "example.com/promptwire/promptwire/aces.LawS6059AWhole" = some 3 by kernel_rfl).symm.trans hf) |>.symm
      obtain rfl : fn = Ybad.f3 := (Option.some.inj (Ybad.func3.symm.trans hfn)).symm
      exact ⟨by kernel_rfl, fun j t ht => by
        rw [Ybad.params3] at ht
        have h3 : t = 3 ∨ t = 22 := by
          rcases j with _ | _ | j
          · left; simpa using ht.symm
          · right; simpa using ht.symm
          · simp at ht
        rcases h3 with rfl | rfl
        · exact (show Ybad.prog.wantsStandIn 3 = false by kernel_rfl)
        · exact (show Ybad.prog.wantsStandIn 22 = false by kernel_rfl)⟩)
    (by kernel_rfl)
end Go.Proofs.YbulkduloDoor.lawS6059AWhole
namespace Go.Proofs.YbulkduloDoor
theorem lawS6059AWholeCard_proved : Rows.LawS6059AWholeCardSaid := lawS6059AWhole.proved
#print axioms lawS6059AWholeCard_proved
end Go.Proofs.YbulkduloDoor
