/-
  'Rows.LawS6057CWholeSaid' PROVED. The frame is the guide's own (proof-skeleton.mjs); the walk: YbulkdukmLawC.lean.
-/
import Derived.Test.YbulkdukmRows
import Derived.Test.YbulkdukmLawC
import Derived.WalkKit
import Derived.ProofKit
import Derived.OpenShut
import Derived.ChangeOld
import Derived.Below
import Derived.Deep.Slices
import Derived.ChangeArms
namespace Go.Proofs.Ybulkdukm.lawS6057CWhole
open Go.ChangeShapes Go.WideShapes Go.ChangeAt Go.RowKit
set_option linter.unusedVariables false

theorem own : ownKnob Yba.prog.godebug = none := by kernel_rfl
theorem laidOut : laidOutB Yba.prog = true := by kernel_rfl

set_option maxRecDepth 100000 in
/-- The argument of items, as it lies. -/
theorem opened2 {H : Type} {enc : TypeId × Value → H} {W : World} {a : Option Addr} {len cap : Nat} {d : DataW H} {p : List MemPlace}
    (h : DataW.Trod enc Yba.prog W 0 (fun _ => true) true 115 (.slice a len cap) d p) :
    len ≤ maxLen ∧ (0 < len → ∃ b off, a = some ⟨b, off, none⟩ ∧ b < W.heap.size ∧ ∀ j, j < len → ∃ (g : Bool) (i : Nat), i < 256 ∧ W.cell? ⟨b, off + j * 2, none⟩ = some (.bool g) ∧ W.cell? ⟨b, off + j * 2 + 1, none⟩ = some (.int .u8 (i : Int))) := by
  obtain ⟨fuel, hf⟩ := h
  have hc2 : Yba.prog.cellsOf 118 = 2 := by kernel_rfl
  have hcu : Yba.prog.cellsOf 5 = 1 := by kernel_rfl
  have hcb : Yba.prog.cellsOf 4 = 1 := by kernel_rfl
  rcases Go.Deep.open_slice Yba.underlying115 hf with ⟨hcs, _⟩ | ⟨x, l, c, m, n, D, Pl, hcs, _, hl, hm, hmm, _, hx⟩
  · simp [Value.cells] at hcs
    obtain ⟨rfl, rfl, rfl⟩ := hcs
    exact ⟨by unfold maxLen; omega, fun h => absurd h (Nat.lt_irrefl _)⟩
  · simp [Value.cells] at hcs
    obtain ⟨rfl, rfl, rfl⟩ := hcs
    rw [if_pos rfl] at hmm
    subst hmm
    rw [hc2] at hx
    refine ⟨Nat.le_trans hl hm, fun h0 => ?_⟩
    have each : ∀ j, j < len → ∃ (g : Bool) (i : Nat), i < 256 ∧ W.cell? (x.add (j * 2)) = some (.bool g) ∧ W.cell? ((x.add (j * 2)).add 1) = some (.int .u8 (i : Int)) := by
      intro j hj
      obtain ⟨cs, hcells, htr⟩ := hx j (by omega)
      obtain ⟨_, hlen, hcell⟩ := World.cells?_some hcells
      obtain ⟨xs, k, _, _, _, hxl, ht⟩ := DataW.trod_struct Yba.underlying118 htr
      match xs, hxl with
      | [y0, y1], _ =>
      have t0 := ht 0 _ rfl
      have t1 := ht 1 _ rfl
      match cs, hlen with
      | [u0, u1], _ =>
        have t0' : DataW.trod enc Yba.prog W 0 (fun _ => true) true k 4 [u0] = some y0 := by simpa [hcb] using t0
        have t1' : DataW.trod enc Yba.prog W 0 (fun _ => true) true k 5 [u1] = some y1 := by simpa [hcu] using t1
        obtain ⟨n0, e0, _⟩ := DataW.trod_bool Yba.underlying4 t0'
        obtain ⟨n1, e1, _, w1⟩ := DataW.trod_int Yba.underlying5 t1'
        simp only [List.cons.injEq, and_true] at e0 e1
        subst e0 e1
        have b1 := bounds_u8 w1
        refine ⟨n0, n1.toNat, by omega, by simpa [Addr.add] using hcell 0 (by omega), ?_⟩
        rw [Int.toNat_of_nonneg b1.1]
        simpa using hcell 1 (by omega)
    obtain ⟨b, off, s⟩ := x
    obtain ⟨_, _, _, c0, _⟩ := each 0 h0
    have hs := World.cell?_spot c0
    have hb := World.block_lt_of_cell? _ _ c0
    simp [Addr.add] at hs hb
    subst hs
    refine ⟨b, off, rfl, hb, fun j hj => ?_⟩
    have := each j hj
    simp only [add_plain] at this
    exact this

theorem walk (a : Option Addr) (len cap : Nat) (stop : Int) (w : World) (h1 : 0 ≤ stop ∧ stop ≤ 65535)
    (h2 : len ≤ maxLen ∧ (0 < len → ∃ b off, a = some ⟨b, off, none⟩ ∧ b < w.heap.size ∧ ∀ j, j < len → ∃ (g : Bool) (i : Nat), i < 256 ∧ w.cell? ⟨b, off + j * 2, none⟩ = some (.bool g) ∧ w.cell? ⟨b, off + j * 2 + 1, none⟩ = some (.int .u8 (i : Int)))) :
    Calls Yba.prog 5 #[.slice a len cap, .int .u16 stop] w fun e w' => e = .returned (.bool true) ∧ Below w.heap.size w w' := by
  obtain ⟨l2, s2⟩ := h2
  obtain ⟨n, rfl⟩ : ∃ n : Nat, stop = n := ⟨stop.toNat, by omega⟩
  unfold maxLen at l2
  by_cases h : 65536 < len
  · exact lawC_long a len cap n w (by omega) h
  · let cv : Nat → Bool := fun j => match a with
      | some x => (match w.cell? ⟨x.block, x.off + j * 2, none⟩ with | some (.bool g) => g | _ => false)
      | none => false
    let ls : Nat → Nat := fun j => match a with
      | some x => (match w.cell? ⟨x.block, x.off + j * 2 + 1, none⟩ with | some (.int .u8 i) => i.toNat | _ => 0)
      | none => 0
    refine lawC_short a len cap n w (by omega) (by omega) cv ls (fun h0 => ?_)
    obtain ⟨b, off, rfl, hb, hc⟩ := s2 h0
    refine ⟨b, off, rfl, hb, fun j hj => ?_⟩
    obtain ⟨g, i, hi, e0, e1⟩ := hc j hj
    have c1 : cv j = g := by simp [cv, e0]
    have c2 : ls j = i := by simp [ls, e1]
    rw [c1, c2]
    exact ⟨hi, e0, e1⟩

set_option maxRecDepth 100000 in
theorem lifted (os : Os) (started : os.Started) (H : Type) (enc : TypeId × Value → H) :
    ReturnsInHanded {} Yba.checked os 5 .any (Rows.lawS6057CWholeSpec.pre6 enc Yba.prog Yba.f5 Rows.lawS6057CWholeRow.domain false) (Rows.lawS6057CWholeSpec.post enc Yba.prog Yba.f5 false true false false) := by
  refine returnsInHanded_of_change (C := Yba.checked) own started (by kernel_rfl) Yba.func5
    (ChangeSpec.witness6 (enc := enc) (C := Yba.checked) false ⟨#[], #[.slice none 0 0, .int .u16 0], []⟩ 8 (by kernel_rfl) (by kernel_rfl) (by kernel_rfl) (by kernel_rfl)) ?_
  intro W base args ds gs before hval0 hW hcnd _
  have hval : ∀ (j : Nat) t v, Yba.f5.params[j]? = some t → args[j]? = some v → Value.okWide Yba.prog W .any base t v := hval0
  have hW' := hW
  obtain ⟨p, q, hA0, hV, rfl, hfz, hnd⟩ := hW
  have hA : DataW.TrodAll enc Yba.prog W 0 (fun _ => true) true Yba.f5.params.toList args.toList ds p := hA0
  rw [Yba.params5] at hA hval
  obtain ⟨v0, vs0, d0, ds0, p0, q0, hargs, rfl, rfl, h0, r0⟩ := trodAll_cons hA
  obtain ⟨v1, vs1, d1, ds1, p1, q1, rfl, rfl, rfl, h1, r1⟩ := trodAll_cons r0
  obtain ⟨rfl, rfl, rfl⟩ := trodAll_nil r1
  obtain rfl : args = #[v0, v1] := by cases args; simp_all
  obtain ⟨rfl, rfl⟩ := trodVars_none hV
  obtain ⟨a0, len0, cap0, rfl⟩ := okWide_slice Yba.underlying115 (hval 0 115 v0 rfl rfl)
  obtain ⟨n1, rfl, rfl, rfl, w1⟩ := open_int Yba.underlying116 (hval 1 116 v1 rfl rfl) h1
  have lt0 : ∀ x ∈ p0, x.block < W.heap.size := by obtain ⟨m, hm⟩ := h0; exact DataW.trod_lt m _ _ _ hm
  clear hA0 hval0
  have b1 := bounds_u16 w1
  refine (walk a0 len0 cap0 n1 W ⟨by omega, by omega⟩ (opened2 h0)).mono fun e W' ⟨he, bel⟩ => ?_
  subst he
  exact ⟨_, rfl, _, _, _, [], _, [], hW', trodAll_mk1 (shut_bool Yba.underlying4 _), (trodAll_cons_mk (Below.trod laidOut (by kernel_rfl) (of_decide_eq_true (by kernel_rfl)) h0 bel lt0) (trodAll_cons_mk (shut_int Yba.underlying116 w1) trodAll_mk0)), rfl, bel.frame _, fun h => by cases h⟩

theorem over : Rows.lawS6057CWholeRow.holds Yba.pinned (OpenSpec.ofChange Rows.lawS6057CWholeSpec) :=
  OpenClaim.holds_of_wide 5 Yba.f5 rfl rfl rfl rfl rfl rfl rfl ⟨rfl, rfl, rfl, rfl, rfl⟩ rfl rfl rfl rfl rfl (by kernel_rfl) Yba.func5 (by kernel_rfl)
    (of_decide_eq_true (by kernel_rfl)) (by unfold Func.isWrapper; first | (rw [if_pos (by decide +kernel)]; kernel_rfl) | (rw [if_neg (by decide +kernel)]; exact ⟨rfl, rfl⟩))
    (fun os started H enc _ => lifted os started H enc)

/-- ████ THE STATEMENT ████ -/
theorem proved : Rows.LawS6057CWholeSaid := over
end Go.Proofs.Ybulkdukm.lawS6057CWhole
namespace Go.Proofs.Ybulkdukm
theorem lawS6057CWhole_proved : Rows.LawS6057CWholeSaid := lawS6057CWhole.proved
#print axioms lawS6057CWhole_proved
end Go.Proofs.Ybulkdukm
