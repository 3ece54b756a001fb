/-
  'Rows.LawS6049AWholeSaid' PROVED. The frame is the guide's own (proof-skeleton.mjs); the walk: YbulkdugeLawA.lean.
-/
import Derived.Test.YbulkdugeRows
import Derived.Test.YbulkdugeLawA
import Derived.WalkKit
import Derived.ProofKit
import Derived.OpenShut
import Derived.ChangeOld
import Derived.Below
import Derived.Deep.Slices
import Derived.Deep.Strs
namespace Go.Proofs.Ybulkduge.lawS6049AWhole
open Go.ChangeShapes Go.WideShapes Go.ChangeAt Go.RowKit
set_option linter.unusedVariables false

theorem own : ownKnob Yba.prog.godebug = none := by kernel_rfl
theorem laidOut : laidOutB Yba.prog = true := by kernel_rfl

/-- The argument of numbers, as the walk wants it. -/
theorem opened0 {H : Type} {enc : TypeId × Value → H} {W : World} {a : Option Addr} {len cap : Nat} {d : DataW H} {p : List MemPlace}
    (h : DataW.Trod enc Yba.prog W 0 (fun _ => true) true 22 (.slice a len cap) d p) :
    len ≤ maxLen ∧ ∃ Z : List Int, Z.length = len ∧ (0 < len → ∃ b off, a = some ⟨b, off, none⟩ ∧ b < W.heap.size ∧ ∀ j, j < len → W.cell? ⟨b, off + j, none⟩ = some (.int .i64 (Z[j]?.getD 0))) := by
  obtain ⟨fuel, hf⟩ := h
  rcases open_ints Yba.underlying22 Yba.underlying3 (by kernel_rfl) hf with ⟨hcs, _⟩ | ⟨x, l, c, zs, hcs, _, hl, hm, hz, _, hcell, hwz⟩
  · simp [Value.cells] at hcs
    obtain ⟨rfl, rfl, rfl⟩ := hcs
    exact ⟨by unfold maxLen; omega, [], rfl, fun h => absurd h (Nat.lt_irrefl _)⟩
  · simp [Value.cells] at hcs
    obtain ⟨rfl, rfl, rfl⟩ := hcs
    have hz' : zs.length = cap := by simpa using hz
    refine ⟨Nat.le_trans hl hm, zs.take len, by simp [hz', hl], fun h0 => ?_⟩
    obtain ⟨b, off, s⟩ := x
    have c0 := hcell 0 (by omega)
    have hs := World.cell?_spot c0
    have hb := World.block_lt_of_cell? _ _ c0
    simp [Addr.add] at hs hb
    subst hs
    refine ⟨b, off, rfl, hb, fun j hj => ?_⟩
    have cj := hcell j (by omega)
    rw [add_plain] at cj
    rw [cj, List.getElem?_take, if_pos hj]
    simp [List.getD]

/-- The argument of operations, as the walk wants it. -/
theorem opened1 {H : Type} {enc : TypeId × Value → H} {W : World} {a : Option Addr} {len cap : Nat} {d : DataW H} {p : List MemPlace}
    (h : DataW.Trod enc Yba.prog W 0 (fun _ => true) true 23 (.slice a len cap) d p) :
    len ≤ maxLen ∧ (0 < len → ∃ b off, a = some ⟨b, off, none⟩ ∧ b < W.heap.size ∧ ∀ j, j < len → ∃ (o : Nat) (A B : Int), o ≤ 255 ∧ W.cell? ⟨b, off + j * 3, none⟩ = some (.int .u8 o) ∧ W.cell? ⟨b, off + j * 3 + 1, none⟩ = some (.int .i64 A) ∧ W.cell? ⟨b, off + j * 3 + 2, none⟩ = some (.int .i64 B)) := by
  obtain ⟨fuel, hf⟩ := h
  have hc3 : Yba.prog.cellsOf 32 = 3 := by kernel_rfl
  have hcu : Yba.prog.cellsOf 5 = 1 := by kernel_rfl
  have hci : Yba.prog.cellsOf 3 = 1 := by kernel_rfl
  rcases Go.Deep.open_slice Yba.underlying23 hf with ⟨hcs, _⟩ | ⟨x, l, c, m, n, D, Pl, hcs, _, hl, hm, hmm, _, hx⟩
  · simp [Value.cells] at hcs
    obtain ⟨rfl, rfl, rfl⟩ := hcs
    exact ⟨by unfold maxLen; omega, fun h => absurd h (Nat.lt_irrefl _)⟩
  · simp [Value.cells] at hcs
    obtain ⟨rfl, rfl, rfl⟩ := hcs
    rw [if_pos rfl] at hmm
    subst hmm
    rw [hc3] at hx
    refine ⟨Nat.le_trans hl hm, fun h0 => ?_⟩
    have each : ∀ j, j < len → ∃ (o : Nat) (A B : Int), o ≤ 255 ∧ W.cell? (x.add (j * 3)) = some (.int .u8 o) ∧ W.cell? ((x.add (j * 3)).add 1) = some (.int .i64 A) ∧ W.cell? ((x.add (j * 3)).add 2) = some (.int .i64 B) := by
      intro j hj
      obtain ⟨cs, hcells, htr⟩ := hx j (by omega)
      obtain ⟨_, hlen, hcell⟩ := World.cells?_some hcells
      obtain ⟨y0, y1, y2, k, _, _, t0, t1, t2⟩ := Go.Deep.trod_struct3 Yba.underlying32 htr
      match cs, hlen with
      | [u0, u1, u2], _ =>
        simp only [hcu, hci] at t0 t1 t2
        obtain ⟨n0, e0, _, w0⟩ := DataW.trod_int Yba.underlying5 t0
        obtain ⟨n1, e1, _, _⟩ := DataW.trod_int Yba.underlying3 t1
        obtain ⟨n2, e2, _, _⟩ := DataW.trod_int Yba.underlying3 t2
        simp at e0 e1 e2
        subst e0 e1 e2
        have b0 := bounds_u8 w0
        refine ⟨n0.toNat, n1, n2, by omega, ?_, by simpa using hcell 1 (by omega), by simpa using hcell 2 (by omega)⟩
        rw [Int.toNat_of_nonneg b0.1]
        simpa [Addr.add] using hcell 0 (by omega)
    obtain ⟨b, off, s⟩ := x
    obtain ⟨_, _, _, _, c0, _⟩ := each 0 h0
    have hs := World.cell?_spot c0
    have hb := World.block_lt_of_cell? _ _ c0
    simp [Addr.add] at hs hb
    subst hs
    refine ⟨b, off, rfl, hb, fun j hj => ?_⟩
    have := each j hj
    simp only [add_plain] at this
    exact this

theorem walk (a0 : Option Addr) (len0 cap0 : Nat) (a1 : Option Addr) (len1 cap1 : Nat) (stop : Int) (w : World)
    (h0 : len0 ≤ maxLen ∧ ∃ Z : List Int, Z.length = len0 ∧ (0 < len0 → ∃ b off, a0 = some ⟨b, off, none⟩ ∧ b < w.heap.size ∧ ∀ j, j < len0 → w.cell? ⟨b, off + j, none⟩ = some (.int .i64 (Z[j]?.getD 0))))
    (h1 : len1 ≤ maxLen ∧ (0 < len1 → ∃ b off, a1 = some ⟨b, off, none⟩ ∧ b < w.heap.size ∧ ∀ j, j < len1 → ∃ (o : Nat) (A B : Int), o ≤ 255 ∧ w.cell? ⟨b, off + j * 3, none⟩ = some (.int .u8 o) ∧ w.cell? ⟨b, off + j * 3 + 1, none⟩ = some (.int .i64 A) ∧ w.cell? ⟨b, off + j * 3 + 2, none⟩ = some (.int .i64 B)))
    (h2 : 0 ≤ stop ∧ stop ≤ 255) :
    Calls Yba.prog 3 #[.slice a0 len0 cap0, .slice a1 len1 cap1, .int .u8 stop] w fun e w' => e = .returned (.bool true) ∧ Below w.heap.size w w' := by
  obtain ⟨l0, Z, hZ, s0⟩ := h0
  obtain ⟨l1, s1⟩ := h1
  obtain ⟨n, rfl⟩ : ∃ n : Nat, stop = n := ⟨stop.toNat, by omega⟩
  unfold maxLen at l0 l1
  by_cases h : 65536 < len0 ∨ 256 < len1
  · exact lawA_long a0 len0 cap0 a1 len1 cap1 n w (by omega) (by omega) h
  · exact lawA_short a0 len0 cap0 Z a1 len1 cap1 n [] w (by omega) (by omega) (by omega) hZ s0 s1

set_option maxRecDepth 100000 in
theorem lifted (os : Os) (started : os.Started) (H : Type) (enc : TypeId × Value → H) :
    ReturnsInHanded {} Yba.checked os 3 .any (Rows.lawS6049AWholeSpec.pre6 enc Yba.prog Yba.f3 Rows.lawS6049AWholeRow.domain false) (Rows.lawS6049AWholeSpec.post enc Yba.prog Yba.f3 false true false false) := by
  refine returnsInHanded_of_change (C := Yba.checked) own started (by kernel_rfl) Yba.func3
    (ChangeSpec.witness6 (enc := enc) (C := Yba.checked) false ⟨#[], #[.slice none 0 0, .slice none 0 0, .int .u8 0], []⟩ 8 (by kernel_rfl) (by kernel_rfl) (by kernel_rfl) (by kernel_rfl)) ?_
  intro W base args ds gs before hval0 hW hcnd _
  have hval : ∀ (j : Nat) t v, Yba.f3.params[j]? = some t → args[j]? = some v → Value.okWide Yba.prog W .any base t v := hval0
  have hW' := hW
  obtain ⟨p, q, hA0, hV, rfl, hfz, hnd⟩ := hW
  have hA : DataW.TrodAll enc Yba.prog W 0 (fun _ => true) true Yba.f3.params.toList args.toList ds p := hA0
  rw [Yba.params3] at hA hval
  obtain ⟨v0, vs0, d0, ds0, p0, q0, hargs, rfl, rfl, h0, r0⟩ := trodAll_cons hA
  obtain ⟨v1, vs1, d1, ds1, p1, q1, rfl, rfl, rfl, h1, r1⟩ := trodAll_cons r0
  obtain ⟨v2, vs2, d2, ds2, p2, q2, rfl, rfl, rfl, h2, r2⟩ := trodAll_cons r1
  obtain ⟨rfl, rfl, rfl⟩ := trodAll_nil r2
  obtain rfl : args = #[v0, v1, v2] := by cases args; simp_all
  obtain ⟨rfl, rfl⟩ := trodVars_none hV
  obtain ⟨a0, len0, cap0, rfl⟩ := okWide_slice Yba.underlying22 (hval 0 22 v0 rfl rfl)
  obtain ⟨a1, len1, cap1, rfl⟩ := okWide_slice Yba.underlying23 (hval 1 23 v1 rfl rfl)
  obtain ⟨n2, rfl, rfl, rfl, w2⟩ := open_int Yba.underlying5 (hval 2 5 v2 rfl rfl) h2
  have lt0 : ∀ x ∈ p0, x.block < W.heap.size := by obtain ⟨m, hm⟩ := h0; exact DataW.trod_lt m _ _ _ hm
  have lt1 : ∀ x ∈ p1, x.block < W.heap.size := by obtain ⟨m, hm⟩ := h1; exact DataW.trod_lt m _ _ _ hm
  clear hA0 hval0
  refine (walk a0 len0 cap0 a1 len1 cap1 n2 W (opened0 h0) (opened1 h1) (bounds_u8 w2)).mono fun e W' ⟨he, bel⟩ => ?_
  subst he
  exact ⟨_, rfl, _, _, _, [], _, [], hW', trodAll_mk1 (shut_bool Yba.underlying4 _), (trodAll_cons_mk (Below.trod laidOut (by kernel_rfl) (of_decide_eq_true (by kernel_rfl)) h0 bel lt0) (trodAll_cons_mk (Below.trod laidOut (by kernel_rfl) (of_decide_eq_true (by kernel_rfl)) h1 bel lt1) (trodAll_cons_mk (shut_int Yba.underlying5 w2) trodAll_mk0))), rfl, bel.frame _, fun h => by cases h⟩

theorem over : Rows.lawS6049AWholeRow.holds Yba.pinned (OpenSpec.ofChange Rows.lawS6049AWholeSpec) :=
  OpenClaim.holds_of_wide 3 Yba.f3 rfl rfl rfl rfl rfl rfl rfl ⟨rfl, rfl, rfl, rfl, rfl⟩ rfl rfl rfl rfl rfl (by kernel_rfl) Yba.func3 (by kernel_rfl)
    (of_decide_eq_true (by kernel_rfl)) (by unfold Func.isWrapper; first | (rw [if_pos (by decide +kernel)]; kernel_rfl) | (rw [if_neg (by decide +kernel)]; exact ⟨rfl, rfl⟩))
    (fun os started H enc _ => lifted os started H enc)

/-- ████ THE STATEMENT ████ -/
theorem proved : Rows.LawS6049AWholeSaid := over
end Go.Proofs.Ybulkduge.lawS6049AWhole
namespace Go.Proofs.Ybulkduge
theorem lawS6049AWhole_proved : Rows.LawS6049AWholeSaid := lawS6049AWhole.proved
#print axioms lawS6049AWhole_proved
end Go.Proofs.Ybulkduge
