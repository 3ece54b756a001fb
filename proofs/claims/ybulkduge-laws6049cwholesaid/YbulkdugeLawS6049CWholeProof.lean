/-
  'Rows.LawS6049CWholeSaid' PROVED. The frame is the guide's own (proof-skeleton.mjs); the walk: YbulkdugeLawC.lean.
-/
import Derived.Test.YbulkdugeRows
import Derived.Test.YbulkdugeLawC
import Derived.WalkKit
import Derived.ProofKit
import Derived.OpenShut
import Derived.ChangeOld
import Derived.Below
import Derived.Deep.Slices
import Derived.ChangeArms
namespace Go.Proofs.Ybulkduge.lawS6049CWhole
open Go.ChangeShapes Go.WideShapes Go.ChangeAt Go.RowKit
set_option linter.unusedVariables false

theorem own : ownKnob Yba.prog.godebug = none := by kernel_rfl
theorem laidOut : laidOutB Yba.prog = true := by kernel_rfl

/-- The argument of steps, as the walk wants it. -/
theorem opened2 {H : Type} {enc : TypeId × Value → H} {W : World} {a : Option Addr} {len cap : Nat} {d : DataW H} {p : List MemPlace}
    (h : DataW.Trod enc Yba.prog W 0 (fun _ => true) true 49 (.slice a len cap) d p) :
    len ≤ maxLen ∧ (0 < len → ∃ b off, a = some ⟨b, off, none⟩ ∧ b < W.heap.size ∧ ∀ j, j < len → ∃ (i : Nat) (g : Bool), i < 2 ^ 64 ∧ W.cell? ⟨b, off + j * 2, none⟩ = some (.int .u64 (i : Int)) ∧ W.cell? ⟨b, off + j * 2 + 1, none⟩ = some (.bool g)) := by
  obtain ⟨fuel, hf⟩ := h
  have hc2 : Yba.prog.cellsOf 58 = 2 := by kernel_rfl
  have hcu : Yba.prog.cellsOf 46 = 1 := by kernel_rfl
  have hcb : Yba.prog.cellsOf 4 = 1 := by kernel_rfl
  rcases Go.Deep.open_slice Yba.underlying49 hf with ⟨hcs, _⟩ | ⟨x, l, c, m, n, D, Pl, hcs, _, hl, hm, hmm, _, hx⟩
  · simp [Value.cells] at hcs
    obtain ⟨rfl, rfl, rfl⟩ := hcs
    exact ⟨by unfold maxLen; omega, fun h => absurd h (Nat.lt_irrefl _)⟩
  · simp [Value.cells] at hcs
    obtain ⟨rfl, rfl, rfl⟩ := hcs
    rw [if_pos rfl] at hmm
    subst hmm
    rw [hc2] at hx
    refine ⟨Nat.le_trans hl hm, fun h0 => ?_⟩
    have each : ∀ j, j < len → ∃ (i : Nat) (g : Bool), i < 2 ^ 64 ∧ W.cell? (x.add (j * 2)) = some (.int .u64 (i : Int)) ∧ W.cell? ((x.add (j * 2)).add 1) = some (.bool g) := by
      intro j hj
      obtain ⟨cs, hcells, htr⟩ := hx j (by omega)
      obtain ⟨_, hlen, hcell⟩ := World.cells?_some hcells
      obtain ⟨xs, k, _, _, _, hxl, ht⟩ := DataW.trod_struct Yba.underlying58 htr
      match xs, hxl with
      | [y0, y1], _ =>
      have t0 := ht 0 _ rfl
      have t1 := ht 1 _ rfl
      match cs, hlen with
      | [u0, u1], _ =>
        have t0' : DataW.trod enc Yba.prog W 0 (fun _ => true) true k 46 [u0] = some y0 := by simpa [hcu] using t0
        have t1' : DataW.trod enc Yba.prog W 0 (fun _ => true) true k 4 [u1] = some y1 := by simpa [hcb] using t1
        obtain ⟨n0, e0, _, w0⟩ := DataW.trod_int Yba.underlying46 t0'
        obtain ⟨n1, e1, _⟩ := DataW.trod_bool Yba.underlying4 t1'
        simp only [List.cons.injEq, and_true] at e0 e1
        subst e0 e1
        have b0 := bounds_u64 w0
        refine ⟨n0.toNat, n1, by omega, ?_, by simpa using hcell 1 (by omega)⟩
        rw [Int.toNat_of_nonneg b0.1]
        simpa [Addr.add] using hcell 0 (by omega)
    obtain ⟨b, off, s⟩ := x
    obtain ⟨_, _, _, c0, _⟩ := each 0 h0
    have hs := World.cell?_spot c0
    have hb := World.block_lt_of_cell? _ _ c0
    simp [Addr.add] at hs hb
    subst hs
    refine ⟨b, off, rfl, hb, fun j hj => ?_⟩
    have := each j hj
    simp only [add_plain] at this
    exact this

theorem walk (sd runs : Int) (a2 : Option Addr) (len2 cap2 : Nat) (w : World) (h0 : 0 ≤ sd ∧ sd ≤ 18446744073709551615) (h1 : -9223372036854775808 ≤ runs ∧ runs ≤ 9223372036854775807)
    (h2 : len2 ≤ maxLen ∧ (0 < len2 → ∃ b off, a2 = some ⟨b, off, none⟩ ∧ b < w.heap.size ∧ ∀ j, j < len2 → ∃ (i : Nat) (g : Bool), i < 2 ^ 64 ∧ w.cell? ⟨b, off + j * 2, none⟩ = some (.int .u64 (i : Int)) ∧ w.cell? ⟨b, off + j * 2 + 1, none⟩ = some (.bool g))) :
    Calls Yba.prog 5 #[.int .u64 sd, .int .i64 runs, .slice a2 len2 cap2] w fun e w' => e = .returned (.bool true) ∧ Below w.heap.size w w' := by
  obtain ⟨l2, s2⟩ := h2
  obtain ⟨n, rfl⟩ : ∃ n : Nat, sd = n := ⟨sd.toNat, by omega⟩
  unfold maxLen at l2
  by_cases h : 4096 < len2
  · exact lawC_long n runs a2 len2 cap2 w (by omega) h
  · exact lawC_short n runs a2 len2 cap2 w (by omega) (by omega) h1 s2

set_option maxRecDepth 100000 in
theorem lifted (os : Os) (started : os.Started) (H : Type) (enc : TypeId × Value → H) :
    ReturnsInHanded {} Yba.checked os 5 .any (Rows.lawS6049CWholeSpec.pre6 enc Yba.prog Yba.f5 Rows.lawS6049CWholeRow.domain false) (Rows.lawS6049CWholeSpec.post enc Yba.prog Yba.f5 false true false false) := by
  refine returnsInHanded_of_change (C := Yba.checked) own started (by kernel_rfl) Yba.func5
    (ChangeSpec.witness6 (enc := enc) (C := Yba.checked) false ⟨#[], #[.int .u64 0, .int .i64 0, .slice none 0 0], []⟩ 8 (by kernel_rfl) (by kernel_rfl) (by kernel_rfl) (by kernel_rfl)) ?_
  intro W base args ds gs before hval0 hW hcnd _
  have hval : ∀ (j : Nat) t v, Yba.f5.params[j]? = some t → args[j]? = some v → Value.okWide Yba.prog W .any base t v := hval0
  have hW' := hW
  obtain ⟨p, q, hA0, hV, rfl, hfz, hnd⟩ := hW
  have hA : DataW.TrodAll enc Yba.prog W 0 (fun _ => true) true Yba.f5.params.toList args.toList ds p := hA0
  rw [Yba.params5] at hA hval
  obtain ⟨v0, vs0, d0, ds0, p0, q0, hargs, rfl, rfl, h0, r0⟩ := trodAll_cons hA
  obtain ⟨v1, vs1, d1, ds1, p1, q1, rfl, rfl, rfl, h1, r1⟩ := trodAll_cons r0
  obtain ⟨v2, vs2, d2, ds2, p2, q2, rfl, rfl, rfl, h2, r2⟩ := trodAll_cons r1
  obtain ⟨rfl, rfl, rfl⟩ := trodAll_nil r2
  obtain rfl : args = #[v0, v1, v2] := by cases args; simp_all
  obtain ⟨rfl, rfl⟩ := trodVars_none hV
  obtain ⟨n0, rfl, rfl, rfl, w0⟩ := open_int Yba.underlying46 (hval 0 46 v0 rfl rfl) h0
  obtain ⟨n1, rfl, rfl, rfl, w1⟩ := open_int Yba.underlying3 (hval 1 3 v1 rfl rfl) h1
  obtain ⟨a2, len2, cap2, rfl⟩ := okWide_slice Yba.underlying49 (hval 2 49 v2 rfl rfl)
  have lt2 : ∀ x ∈ p2, x.block < W.heap.size := by obtain ⟨m, hm⟩ := h2; exact DataW.trod_lt m _ _ _ hm
  clear hA0 hval0
  have b0 := bounds_u64 w0
  have b1 := bounds_i64 w1
  refine (walk n0 n1 a2 len2 cap2 W ⟨by omega, by omega⟩ ⟨by omega, by omega⟩ (opened2 h2)).mono fun e W' ⟨he, bel⟩ => ?_
  subst he
  exact ⟨_, rfl, _, _, _, [], _, [], hW', trodAll_mk1 (shut_bool Yba.underlying4 _), (trodAll_cons_mk (shut_int Yba.underlying46 w0) (trodAll_cons_mk (shut_int Yba.underlying3 w1) (trodAll_cons_mk (Below.trod laidOut (by kernel_rfl) (of_decide_eq_true (by kernel_rfl)) h2 bel lt2) trodAll_mk0))), rfl, bel.frame _, fun h => by cases h⟩

theorem over : Rows.lawS6049CWholeRow.holds Yba.pinned (OpenSpec.ofChange Rows.lawS6049CWholeSpec) :=
  OpenClaim.holds_of_wide 5 Yba.f5 rfl rfl rfl rfl rfl rfl rfl ⟨rfl, rfl, rfl, rfl, rfl⟩ rfl rfl rfl rfl rfl (by kernel_rfl) Yba.func5 (by kernel_rfl)
    (of_decide_eq_true (by kernel_rfl)) (by unfold Func.isWrapper; first | (rw [if_pos (by decide +kernel)]; kernel_rfl) | (rw [if_neg (by decide +kernel)]; exact ⟨rfl, rfl⟩))
    (fun os started H enc _ => lifted os started H enc)

/-- ████ THE STATEMENT ████ -/
theorem proved : Rows.LawS6049CWholeSaid := over
end Go.Proofs.Ybulkduge.lawS6049CWhole
namespace Go.Proofs.Ybulkduge
theorem lawS6049CWhole_proved : Rows.LawS6049CWholeSaid := lawS6049CWhole.proved
#print axioms lawS6049CWhole_proved
end Go.Proofs.Ybulkduge
