/-
  THE WALK OF 'LawS6049AWhole' (3).
-/
import Derived.Test.YbulkdugeInv
namespace Go.Proofs.Ybulkduge
open Go.RowKit
set_option linter.unusedVariables false

/-- The messages that the law makes of the numbers. -/
def msOf (Z : List Int) : List Msg := Z.mapIdx fun i z => (z, (i : Int), -(i : Int))
theorem msOf_length (Z : List Int) : (msOf Z).length = Z.length := by simp [msOf]
theorem msOf_get (Z : List Int) (k : Nat) (h : k < Z.length) (h' : k < (msOf Z).length) : (msOf Z)[k] = (Z[k], (k : Int), -(k : Int)) := by simp [msOf]

/-- The first loop's head. -/
def I1 (w0 w : World) (BS stop gA len0 k : Nat) (MS : List Msg) (ao : Option Addr) (cap : Nat) : Prop :=
  RowM w gA (MS.take k ++ List.replicate (len0 - k) zeroM) ∧ Slc w 26 4 ao k cap (flat (MS.take k)) ∧ (∀ g ∈ ownB ao cap, w0.heap.size ≤ g ∧ g ≠ gA) ∧ Below w0.heap.size w0 w ∧ w.heap[BS]? = some (.cells #[.int .u8 stop] 5 (0, 0))

set_option maxRecDepth 100000 in
set_option maxHeartbeats 400000 in
theorem lawA_long (a0 : Option Addr) (len0 cap0 : Nat) (a1 : Option Addr) (len1 cap1 stop : Nat) (w : World) (hs : len0 ≤ 9223372036854775807) (hl : len1 ≤ 9223372036854775807) (h : 65536 < len0 ∨ 256 < len1) :
    Calls Yba.prog 3 #[.slice a0 len0 cap0, .slice a1 len1 cap1, .int .u8 stop] w fun e w' => e = .returned (.bool true) ∧ Below w.heap.size w w' := by
  by_cases h1 : 65536 < len0
  · go_enter Yba.func3, Yba.ntmps3
    go_wp2
    go_ret
    exact ⟨rfl, (Below.refl _ _).alloc (Nat.le_refl _) _⟩
  · have h2 : 256 < len1 := by omega
    have hd : decide ((65536 : Int) < (len0 : Int)) = false := decide_eq_false (by omega)
    clear h
    go_enter Yba.func3, Yba.ntmps3
    go_wp2
    go_ret
    exact ⟨rfl, (Below.refl _ _).alloc (Nat.le_refl _) _⟩

theorem row_fill {w : World} {g n : Nat} {I : List Msg} (k : Nat) (hk : k < I.length) (hn : I.length = n) (h : RowM w g (I.take k ++ List.replicate (n - k) zeroM)) (m : Msg) (hm : m = I[k]) :
    RowM (stM w g k m) g (I.take (k + 1) ++ List.replicate (n - (k + 1)) zeroM) := by
  subst hm
  have := h.st k I[k]
  have e : (I.take k ++ List.replicate (n - k) zeroM).set k I[k] = I.take (k + 1) ++ List.replicate (n - (k + 1)) zeroM := by
    have h1 : n - k = (n - (k + 1)) + 1 := by omega
    rw [h1, List.replicate_succ, List.set_append_right _ _ (by simp; omega), List.take_succ_eq_append_getElem hk]
    have h2 : k - (I.take k).length = 0 := by simp; omega
    rw [h2]
    simp only [List.set_cons_zero, List.append_assoc, List.cons_append, List.nil_append]
  rwa [e] at this

theorem I1.slc {w0 w : World} {BS stop gA len0 k : Nat} {MS : List Msg} {ao : Option Addr} {cap : Nat} (h : I1 w0 w BS stop gA len0 k MS ao cap) (m : Msg) (o o' : Obj) : Slc (((stM w gA k m).alloc o).alloc o') 26 4 ao k cap (flat (MS.take k)) :=
  h.2.1.outside (S := [gA]) ((((Outside.refl [gA] w).stM gA k (.inl (by simp)) m).alloc o).alloc o') (fun g hg => by simp; exact (h.2.2.1 g hg).2)

theorem I1.step {w0 w w3 : World} {BS stop gA len0 k : Nat} {MS : List Msg} {ao ao' : Option Addr} {cap cap' : Nat} (h : I1 w0 w BS stop gA len0 k MS ao cap) (hk : k < MS.length) (hl : MS.length = len0) (m : Msg) (hm : m = MS[k]) (o o' : Obj) (hs : Slc w3 26 4 ao' (k + 1) cap' (flat (MS.take k) ++ mc m)) (ho : Outside (ownB ao cap) (((stM w gA k m).alloc o).alloc o') w3)
    (how : ∀ g ∈ ownB ao' cap', g ∈ ownB ao cap ∨ (((stM w gA k m).alloc o).alloc o').heap.size ≤ g) (hgA : w0.heap.size ≤ gA) : I1 w0 w3 BS stop gA len0 (k + 1) MS ao' cap' := by
  obtain ⟨h1, h2, h3, h4, h5⟩ := h
  have hz := h4.size
  have hsz : (((stM w gA k m).alloc o).alloc o').heap.size = w.heap.size + 1 + 1 := by simp [stM]
  have hne : BS ≠ gA := by
    rintro rfl
    unfold RowM at h1
    rw [h5] at h1
    simp at h1
  have hO : Outside [gA] w (((stM w gA k m).alloc o).alloc o') := (((Outside.refl [gA] w).stM gA k (.inl (by simp)) m).alloc o).alloc o'
  have hgo : gA ∉ ownB ao cap := fun hm => (h3 gA hm).2 rfl
  refine ⟨?_, ?_, ?_, ?_, ?_⟩
  · have hr := row_fill k hk hl h1 m hm
    have hr2 := hr.outside ((((Outside.refl [] _).alloc o).alloc o')) (by simp)
    exact hr2.outside ho hgo
  · rw [flat_snoc] at hs
    rw [List.take_succ_eq_append_getElem hk, ← hm]
    exact hs
  · intro g hg
    rcases how g hg with h | h
    · exact h3 g h
    · have := h1.lt; omega
  · exact ho.below (hO.below h4 hz (by simp; exact hgA)) (by omega) (fun x hx => (h3 x hx).1)
  · refine ho.obj (hO.obj h5 (by simp; exact hne)) ?_
    exact h2.not_own h5 (by decide)

theorem inv_start {w0 w w3 : World} {BS stop gA len0 : Nat} {MS : List Msg} {ao : Option Addr} {cap : Nat} {a b d e : Value} (h : I1 w0 w BS stop gA len0 len0 MS ao cap) (hl : MS.length = len0) (hgA : w0.heap.size ≤ gA) (hf : Fresh w w3 gA a b d e (len0 + 1) MS) (ho : Outside [] w w3) :
    ∃ F, Inv w0 (w3.alloc (.cells #[a, b, d, e] 29)) w3.heap.size BS stop F (len0 + 1) MS ao cap := by
  obtain ⟨h1, h2, h3, h4, h5⟩ := h
  obtain ⟨F, f1, f2⟩ := hf
  have hz := h4.size
  have hz3 := ho.size
  have hne : BS ≠ gA := by
    rintro rfl
    unfold RowM at h1
    rw [h5] at h1
    simp at h1
  have hO : Outside [] w (w3.alloc (.cells #[a, b, d, e] 29)) := ho.alloc _
  have et : MS.take len0 = MS := List.take_of_length_le (by omega)
  rw [et] at h2
  refine ⟨F, ?_⟩
  exact
  { ll := f1
    sl := by rw [hl]; exact h2.outside hO (by simp)
    apart := fun g hg hm => by
      rcases f2 g hm with h | h
      · exact (h3 g hg).2 h
      · have := h2.lt g hg; omega
    own0 := fun g hg => (h3 g hg).1
    f0 := fun g hg => by
      rcases f2 g hg with h | h
      · omega
      · omega
    bs := hO.obj h5 (by simp)
    bsF := fun hm => by
      rcases f2 BS hm with h | h
      · exact hne h
      · have := lt_of_block h5; omega
    bel := hO.below h4 hz (by simp)
    len := by omega }

theorem pick (A : Int) (n : Nat) (hn : 1 ≤ n) (hn2 : n ≤ 2000000000) : ∃ i : Nat, i < n ∧ wrap64 ((IntKind.u64.wrap A).tmod n) = i := by
  have h0 : 0 ≤ IntKind.u64.wrap A := by rw [IntKind.wrap_u64]; omega
  have h1 : 0 ≤ (IntKind.u64.wrap A).tmod n := Int.tmod_nonneg _ h0
  have h2 : (IntKind.u64.wrap A).tmod n < n := Int.tmod_lt_of_pos _ (by omega)
  refine ⟨((IntKind.u64.wrap A).tmod n).toNat, by omega, ?_⟩
  rw [IntWalk.wrap64_in _ ⟨by omega, by omega⟩]
  omega

theorem run_front {P : Program} (t e : TypeId) (size : Nat) (ht : P.underlying t = some (.slice e)) (hz : (P.info? e).map (·.size) = some size) (g off n cap : Nat) (h : Int) (h0 : 0 ≤ h) (hh : h ≤ cap) (W : World) :
    (Instr.slice t (.slice (some ⟨g, off, none⟩) n cap) none (some (.int .i64 h)) none).run P W = .ok (.slice (some ⟨g, off, none⟩) h.toNat cap) W := by
  cases hq : P.info? e with
  | none => simp [hq] at hz
  | some i =>
    have ea : (⟨g, off, none⟩ : Addr).add 0 = ⟨g, off, none⟩ := by unfold Addr.add; split <;> simp_all
    simp [Instr.slice, run_underlying ht, Instr.sliceBounds, Instr.sliceBound, asIntOf, sizeOf, typeInfo, hq, h0, hh, ea]

/-- A block that came behind the list's memory stays behind a call on the list. -/
theorem turned_box {W w5 : World} {L : Nat} {F : List Nat} {c' : Nat} {ms' : List Msg} {b : Nat} {o : Obj} (ht : Turned W w5 L F c' ms') (hb : W.heap[b]? = some o) (hF : b ∉ F) : w5.heap[b]? = some o := by
  obtain ⟨F', t1, t2, t3⟩ := ht
  exact t2.obj hb hF

theorem Inv.newF {w0 w : World} {L BS stop : Nat} {F : List Nat} {c : Nat} {ms : List Msg} {ao : Option Addr} {cap : Nat} (h : Inv w0 w L BS stop F c ms ao cap) (b : Nat) (hb : w.heap.size ≤ b) : b ∉ F := fun hm => by have := h.ll.lt b hm; omega

theorem cells4 {w : World} {b : Nat} {m : Msg} (h : w.heap[b]? = some (.cells #[.int .i64 m.1, .int .i64 m.2.1, .int .i64 m.2.2, .nilIface] 26)) : w.cell? ⟨b, 0, none⟩ = some (.int .i64 m.1) ∧ w.cell? ⟨b, 1, none⟩ = some (.int .i64 m.2.1) ∧ w.cell? ⟨b, 2, none⟩ = some (.int .i64 m.2.2) ∧ w.cell? ⟨b, 3, none⟩ = some .nilIface := by
  have hc : ∀ j, w.cell? ⟨b, j, none⟩ = (#[.int .i64 m.1, .int .i64 m.2.1, .int .i64 m.2.2, .nilIface] : Array Value)[j]? := fun j => cell_of_row w b j _ 26 (0, 0) h
  exact ⟨hc 0, hc 1, hc 2, hc 3⟩

theorem slc_box {w : World} {e : TypeId} {size : Nat} {ao : Option Addr} {n cap : Nat} {xs : List Value} (h : Slc w e size ao n cap xs) (o : Obj) : Slc (w.alloc o) e size ao n cap xs :=
  h.outside (S := []) ((Outside.refl [] w).alloc o) (by simp)

set_option maxRecDepth 100000 in
set_option maxHeartbeats 8000000 in
theorem lawA_short (a0 : Option Addr) (len0 cap0 : Nat) (Z : List Int) (a1 : Option Addr) (len1 cap1 stop : Nat) (OPS : List (Nat × Int × Int)) (w : World) (hs : len0 ≤ 65536) (hl : len1 ≤ 256) (hst : stop ≤ 255)
    (hZ : Z.length = len0) (hsrc0 : 0 < len0 → ∃ b off, a0 = some ⟨b, off, none⟩ ∧ b < w.heap.size ∧ ∀ j, j < len0 → w.cell? ⟨b, off + j, none⟩ = some (.int .i64 (Z[j]?.getD 0)))
    (hsrc1 : 0 < len1 → ∃ b off, a1 = some ⟨b, off, none⟩ ∧ b < w.heap.size ∧ ∀ j, j < len1 → ∃ (o : Nat) (A B : Int), o ≤ 255 ∧ w.cell? ⟨b, off + j * 3, none⟩ = some (.int .u8 o) ∧ w.cell? ⟨b, off + j * 3 + 1, none⟩ = some (.int .i64 A) ∧ w.cell? ⟨b, off + j * 3 + 2, none⟩ = some (.int .i64 B)) :
    Calls Yba.prog 3 #[.slice a0 len0 cap0, .slice a1 len1 cap1, .int .u8 stop] w fun e w' => e = .returned (.bool true) ∧ Below w.heap.size w w' := by
  obtain ⟨i26, hi26, hy0, hy1, hy2⟩ := info_parts Yba.info26
  have hd : decide ((65536 : Int) < (len0 : Int)) = false := decide_eq_false (by omega)
  have HZ := hide hZ
  have HM : Hid ((msOf Z).length = len0) := (msOf_length Z).trans hZ
  have HS0 := hide hsrc0
  have HS1 := hide hsrc1
  clear hZ hsrc0 hsrc1
  go_enter Yba.func3, Yba.ntmps3
  go_wp2_with (first
    | (at_make; refine wpList_make_full _ rfl (.tmp 33) (.tmp 33) 24 rfl 0 26 i26 (.agg zeroA) 4 Yba.underlying24 hi26 hy0 hy1 .i64 .i64 _ _ len0 rfl rfl (by omega) (by omega) (by rw [hy2]; omega) (by unfold maxLen; omega) (by simp) ?_; intro w1 hown1 hgrow1; rw [World.size_alloc] at hown1; have HR1 := hide (rowM_made hown1); have HO1 := hide (((Outside.refl [] w).alloc _).trans (Outside.of_grown hgrow1 (fun k hk => by cases hk))); have HB1 := hide ((Outside.of_grown (S := []) hgrow1 (fun k hk => by cases hk)).obj (heap_alloc_new w _) (by simp)); clear hown1 hgrow1)
    | (at_make; refine wpList_make_own _ rfl _ (.tmp 36) 24 rfl 0 26 i26 (.agg zeroA) 4 Yba.underlying24 hi26 hy0 hy1 .i64 .i64 _ len0 rfl rfl (by omega) (by rw [hy2]; omega) (by unfold maxLen; omega) (by simp) ?_; intro w2 hown2 hgrow2; have HS2 := hide (Slc.of_owns hown2); have HO2 := hide (Outside.of_grown (S := []) hgrow2 (fun k hk => by cases hk)); clear hown2 hgrow2))
  have hlt1 := HR1.out.lt
  have HI1 : Hid (I1 w w2 w.heap.size stop (w.heap.size + 1) len0 0 (msOf Z) (some ⟨w1.heap.size, 0, none⟩) len0) := by
    refine ⟨?_, HS2.out, ?_, ?_, HO2.out.obj HB1.out (by simp)⟩
    · simpa using HR1.out.outside HO2.out (by simp)
    · intro g hg
      simp only [ownB] at hg
      split at hg
      · simp at hg
      · simp at hg; omega
    · exact (HO1.out.trans HO2.out).below (Below.refl _ _) (Nat.le_refl _) (by simp)
  clear HR1 HO1 HB1 HS2 HO2
  go_loopw [8, 9] (fun v i wr => ∃ (k : Nat) (ao : Option Addr) (cap : Nat), k ≤ len0 ∧ i = .int .i64 k ∧ v = .slice ao k cap ∧ I1 w wr w.heap.size stop (w.heap.size + 1) len0 k (msOf Z) ao cap) (fun _ i _ => len0 - (intOf i).toNat)
  case atStart => exact ⟨0, _, _, Nat.zero_le _, rfl, rfl, HI1.out⟩
  case round =>
    obtain ⟨k, ao, cap, hk, rfl, rfl, hI⟩ := hrel
    have HH := hide hI
    obtain ⟨h1, h2, h3, h4, h5⟩ := hI
    by_cases hlt : k < len0
    · obtain ⟨b, off, ha0, hb, hcell⟩ := HS0.out (by omega)
      have hkM : k < (msOf Z).length := by rw [HM.out]; exact hlt
      have hkZ : k < Z.length := by rw [HZ.out]; exact hlt
      have hc : wr.cell? ⟨b, off + k, none⟩ = some (.int .i64 (Z[k]?.getD 0)) := (h4.cell hb).trans (hcell k hlt)
      have hbw : b < wr.heap.size := World.block_lt_of_cell? wr _ hc
      have hrl : k < ((msOf Z).take k ++ List.replicate (len0 - k) zeroM).length := by simp [HM.out]; omega
      obtain ⟨p0, p1, p2, p3⟩ := h1.cells k hrl
      have pf : ∀ j, wr.frozen? ⟨w.heap.size + 1, j, none⟩ = false := fun j => h1.frozen j
      have hgw := h1.lt
      clear hcell
      subst ha0
      generalize ((msOf Z).take k ++ List.replicate (len0 - k) zeroM)[k] = m0 at *
      clear h1 h2 h3 h4 h5
      have tok : True := trivial
      go_wp2_with (at_builtin; go_must (have _t := tok; refine wpList_append_cut _ rfl (.tmp 56) (.tmp 58) 24 rfl 26 i26 (.agg zeroA) 4 40 Yba.underlying24 hi26 hy0 hy1 hy2 rfl (by decide) ao k cap (flat ((msOf Z).take k)) rfl (HH.out.slc (Z[k], (k : Int), -(k : Int)) _ _) ⟨wr.heap.size + 1, 0, none⟩ 1 1 (mc (Z[k], (k : Int), -(k : Int))) rfl rfl (mc_news (Z[k], (k : Int), -(k : Int)) _ (by simp)) (mc_one _) (by decide) (by unfold maxLen; omega) (by omega) ?_; intro ao' cap' w3 hs3 ho3 how3; have HN := hide (HH.out.step hkM HM.out (Z[k], (k : Int), -(k : Int)) (by rw [msOf_get Z k hkZ hkM]) _ _ hs3 ho3 how3 (Nat.le_succ _)); clear hs3 ho3 how3 tok _t))
      go_roundw
      case rel => exact ⟨k + 1, ao', cap', by omega, by go_num, by go_num, HN.out⟩
      case measure => simp [intOf]; omega
    · obtain rfl : k = len0 := by omega
      have et : (msOf Z).take k = msOf Z := List.take_of_length_le (by rw [HM.out]; exact Nat.le_refl _)
      rw [et, Nat.sub_self, List.replicate_zero, List.append_nil] at h1
      have HLO := hide (listOf_any (w.heap.size + 1) (msOf Z) k wr h1 HM.out (by omega))
      clear h1 h2 h3 h4 h5 et HI1
      go_wp2_with (go_at_call 6; refine (unhide HLO).mono ?_; rintro e w3 ⟨b1, sa, n1, c1, sl, sc, x, y, rfl, hfr, ho3⟩; have HN := hide (inv_start HH.out HM.out (Nat.le_succ _) hfr ho3); clear hfr ho3)
      obtain ⟨F0, hinv0⟩ := HN.out
      have HI0 := hide hinv0
      clear hinv0 HN HH HLO
      generalize w3.alloc (Obj.cells #[.slice b1 n1 c1, .int .i64 x, .int .i64 y, .slice sa sl sc] 29) = w4 at *
      generalize w3.heap.size = L at *
      have HML := HM.out
      clear HZ HS0
      generalize msOf Z = MS at *
      rw [← HML] at *
      go_loopw [8, 12] (fun v i wr => ∃ (q : Nat) (F : List Nat) (c : Nat) (ms : List Msg) (n : Nat) (ao : Option Addr) (cap : Nat), q ≤ len1 ∧ i = .int .i64 q ∧ v = .slice ao n cap ∧ ms.length = n ∧ Inv w wr L w.heap.size stop F c ms ao cap ∧ c ≤ 65537 + q * 9001) (fun _ i _ => len1 - (intOf i).toNat)
      case atStart => exact ⟨0, F0, _, MS, _, ao, cap, Nat.zero_le _, rfl, rfl, rfl, HI0.out, by omega⟩
      case round =>
        obtain ⟨q, F, c, ms, n, ao, cap, hq, rfl, rfl, hmn, hI, hc⟩ := hrel
        have HI := hide hI
        have hml := hI.len
        have hz0 := hI.lt0
        have HSL0 := hI.sl
        rw [hmn] at hml HSL0
        have HMN := hide hmn
        have hcn := HSL0.2.1
        by_cases hlt : q < len1
        · obtain ⟨b, off, ha1, hb, hcell⟩ := HS1.out (by omega)
          obtain ⟨o, A, B, ho, p0, p1, p2⟩ := hcell q hlt
          have p0' := (hI.bel.cell (p := ⟨b, off + q * 3, none⟩) hb).trans p0
          have p1' := (hI.bel.cell (p := ⟨b, off + q * 3 + 1, none⟩) hb).trans p1
          have p2' := (hI.bel.cell (p := ⟨b, off + q * 3 + 2, none⟩) hb).trans p2
          have hbw : b < wr.heap.size := World.block_lt_of_cell? wr _ p0'
          have HX := hide ((hI.alloc (.cells #[.int .u8 o, .int .i64 A, .int .i64 B] 32)).alloc (.cells #[.int .i64 A, .int .i64 B, .int .i64 q, .nilIface] 26))
          have HNF := hide hI.newF
          clear hcell p0 p1 p2 HS1
          subst ha1
          by_cases hm0 : o % 4 = 0
          · have t0 : ((o : Int) % 4 == 0) = true := by rw [beq_iff_eq]; omega
            have HP := hide (push_ll HX.out.ll (A, B, (q : Int)) (by rw [hmn]; omega) (by omega))
            clear hm0 hI hmn HSL0
            have tok : True := trivial
            go_wp2_with (first
              | (go_at_call 7; go_must (refine (unhide HP).mono ?_; rintro e w5 ⟨rfl, ht⟩; have hbx := turned_box ht (heap_alloc_new _ _) (HNF.out _ (by simp)); rw [World.size_alloc] at hbx; obtain ⟨x0, x1, x2, x3⟩ := cells4 (m := (A, B, (q : Int))) hbx; have hsl := HX.out.slice ht; rw [HMN.out] at hsl; have HSl := hide hsl; have HT := hide ht; clear ht hbx hsl))
              | (at_builtin; go_must (have _t := tok; refine wpList_append_cut _ rfl (.tmp 109) (.tmp 111) 24 rfl 26 i26 (.agg zeroA) 4 40 Yba.underlying24 hi26 hy0 hy1 hy2 rfl (by decide) ao n cap (flat ms) rfl (slc_box HSl.out _) ⟨w5.heap.size, 0, none⟩ 1 1 (mc (A, B, (q : Int))) rfl rfl (mc_news (A, B, (q : Int)) _ rfl) (mc_one _) (by decide) (by unfold maxLen; omega) (by omega) ?_; intro ao' cap' w6 hs6 ho6 how6; have HN := hide (HX.out.push HT.out (by rw [HMN.out]; exact hs6) ho6 how6); clear hs6 ho6 how6 tok _t)))
            go_roundw
            case rel =>
              obtain ⟨F', hn, _⟩ := HN.out
              exact ⟨q + 1, F', c + 1, ms ++ [(A, B, (q : Int))], n + 1, ao', cap', by omega, by go_num, rfl, by simp [HMN.out], hn, by omega⟩
            case measure => simp [intOf]; omega
          · have t0 : ((o : Int) % 4 == 0) = false := by rw [beq_eq_false_iff_ne]; omega
            have HX1 := hide (hI.alloc (.cells #[.int .u8 o, .int .i64 A, .int .i64 B] 32))
            by_cases hm1 : o % 4 = 1
            · have t1 : ((o : Int) % 4 == 1) = true := by rw [beq_iff_eq]; omega
              by_cases hn0 : 1 ≤ n
              · have HP := hide (pop_ll HX1.out.ll (by rw [hmn]; exact hn0) (by rw [hmn]; omega))
                obtain ⟨g, of, cur, hao, _⟩ := HSL0.at_ (by omega)
                subst hao
                have hcut : ∀ W, (Instr.slice 24 (.slice (some ⟨g, of, none⟩) n cap) (some (.int .i64 1)) none none).run Yba.prog W = .ok (.slice (cutA g of 4 cap 1) (n - 1) (cap - 1)) W := run_cut (P := Yba.prog) 24 26 4 Yba.underlying24 Yba.size26 g of n cap 1 hn0
                clear hm0 hm1 hI hmn HSL0
                go_wp2_with (go_at_call 8; go_must (refine (unhide HP).mono ?_; rintro e w5 ⟨⟨v, rfl⟩, ht⟩; have HN := hide (HX1.out.pop ht (by rw [HMN.out]; exact hn0)); clear ht))
                go_roundw
                case rel =>
                  obtain ⟨F', hn, _⟩ := HN.out
                  exact ⟨q + 1, F', c + 1, ms.tail, n - 1, _, _, by omega, by go_num, rfl, by simp [HMN.out], hn, by omega⟩
                case measure => simp [intOf]; omega
              · clear hm0 hm1 hI hmn HSL0
                go_wp2
                go_roundw
                case rel => exact ⟨q + 1, F, c, ms, n, ao, cap, by omega, by go_num, rfl, HMN.out, HX1.out, by omega⟩
                case measure => simp [intOf]; omega
            · have t1 : ((o : Int) % 4 == 1) = false := by rw [beq_eq_false_iff_ne]; omega
              by_cases hm2 : o % 4 = 2
              · have t2 : ((o : Int) % 4 == 2) = true := by rw [beq_iff_eq]; omega
                by_cases hn0 : 1 ≤ n
                · obtain ⟨g, of, cur, hao, hcur, _⟩ := HSL0.at_ (by omega)
                  subst hao
                  have hcut : ∀ W, (Instr.slice 24 (.slice (some ⟨g, of, none⟩) n cap) none (some (.int .i64 ((n : Int) - 1))) none).run Yba.prog W = .ok (.slice (some ⟨g, of, none⟩) ((n : Int) - 1).toNat cap) W := run_front (P := Yba.prog) 24 26 4 Yba.underlying24 Yba.size26 g of n cap _ (by omega) (by omega)
                  rw [show ((n : Int) - 1).toNat = n - 1 by omega] at hcut
                  obtain ⟨i, hi, he⟩ := pick A n hn0 (by omega)
                  have HE := hide he
                  have HP := hide (take_ll HX1.out.ll i (by rw [hmn]; exact hi) (by rw [hmn]; omega))
                  have hnl : n - 1 < ms.length := by omega
                  have hil : i < ms.length := by omega
                  clear hm0 hm1 hm2 hI hmn HSL0 he
                  go_wp2_with fail
                  rw [HE.out]
                  refine (unhide HP).mono ?_
                  rintro e w5 ⟨⟨v, rfl⟩, ht⟩
                  have hsl := HX1.out.slice ht
                  rw [HMN.out] at hsl
                  obtain ⟨y0, y1, y2, y3⟩ := hsl.msg HMN.out (n - 1) hnl
                  obtain ⟨z0, z1, z2, z3⟩ := hsl.msg HMN.out i hil
                  have zf : ∀ j, w5.frozen? ⟨g, j, none⟩ = false := fun j => hsl.frozen (by omega) j
                  have em : ms[ms.length - 1]?.getD zeroM = ms[n - 1] := by rw [HMN.out, List.getElem?_eq_getElem hnl, Option.getD_some]
                  rw [em] at ht
                  generalize ms[n - 1] = m at *
                  have HN := hide (HX1.out.take em.symm ht hil)
                  rw [HMN.out] at HN
                  clear ht hsl em HP
                  generalize ms[i] = m' at *
                  go_wp2
                  go_roundw
                  case rel =>
                    obtain ⟨F', hn, _⟩ := HN.out
                    exact ⟨q + 1, F', c, _, n - 1, some ⟨g, of, none⟩, cap, by omega, by go_num, rfl, by simp [HMN.out], hn, by omega⟩
                  case measure => simp [intOf]; omega
                · clear hm0 hm1 hm2 hI hmn HSL0
                  go_wp2
                  go_roundw
                  case rel => exact ⟨q + 1, F, c, ms, n, ao, cap, by omega, by go_num, rfl, HMN.out, HX1.out, by omega⟩
                  case measure => simp [intOf]; omega
              · have t2 : ((o : Int) % 4 == 2) = false := by rw [beq_eq_false_iff_ne]; omega
                obtain ⟨cc, hcc, he⟩ := pick B 9000 (by omega) (by omega)
                rw [show ((9000 : Nat) : Int) = 9000 from rfl] at he
                have HE := hide he
                have hOB := HNF.out wr.heap.size (Nat.le_refl _)
                have HOB := hide hOB
                clear hm0 hm1 hm2 hI hmn HSL0 he hOB HX
                go_wp2
                rw [HE.out]
                clear HE p0' p1' p2'
                obtain ⟨wo, rfl⟩ : ∃ wo : World, wo = wr := ⟨_, rfl⟩
                go_loopw [8, 18] (fun v i w5 => ∃ (j : Nat) (F' : List Nat) (c' : Nat) (ms' : List Msg) (n' : Nat) (ao' : Option Addr) (cap' : Nat), j ≤ cc ∧ i = .int .i64 j ∧ v = .slice ao' n' cap' ∧ ms'.length = n' ∧ Inv w w5 L w.heap.size stop F' c' ms' ao' cap' ∧ c' ≤ 65537 + q * 9001 + j ∧ wo.heap.size ∉ F' ∧ w5.heap[wo.heap.size]? = some (.cells #[.int .u8 o, .int .i64 A, .int .i64 B] 32 (0, 0))) (fun _ i _ => cc - (intOf i).toNat)
                case atStart => exact ⟨0, F, c, ms, n, ao, cap, Nat.zero_le _, rfl, rfl, HMN.out, HX1.out, by omega, HOB.out, heap_alloc_new wo _⟩
                case round =>
                  obtain ⟨j, F', c', ms', n', ao', cap', hj, rfl, rfl, hmn', hI', hc', hob, hbox⟩ := hrel
                  have hml' := hI'.len
                  rw [hmn'] at hml'
                  have HMN' := hide hmn'
                  have HI' := hide hI'
                  have HBX := hide (show wo.heap.size ∉ F' ∧ wr.heap[wo.heap.size]? = some (.cells #[.int .u8 o, .int .i64 A, .int .i64 B] 32 (0, 0)) from ⟨hob, hbox⟩)
                  have b1 : wr.cell? ⟨wo.heap.size, 1, none⟩ = some (.int .i64 A) := by rw [cell_of_row wr _ 1 _ 32 (0, 0) hbox]; rfl
                  have hbl := lt_of_block hbox
                  by_cases hjl : j < cc
                  · have HX := hide (hI'.alloc (.cells #[.int .i64 (wrap64 (A + (j : Int))), .int .i64 j, .int .i64 q, .nilIface] 26))
                    have HNF' := hide hI'.newF
                    have HP := hide (push_ll HX.out.ll (wrap64 (A + (j : Int)), (j : Int), (q : Int)) (by rw [hmn']; omega) (by omega))
                    clear hI' hmn' hob hbox
                    have tok : True := trivial
                    go_wp2_with (first
                      | (go_at_call 7; go_must (refine (unhide HP).mono ?_; rintro e w5 ⟨rfl, ht⟩; have hbx := turned_box ht (heap_alloc_new _ _) (HNF'.out _ (Nat.le_refl _)); obtain ⟨x0, x1, x2, x3⟩ := cells4 (m := (wrap64 (A + (j : Int)), (j : Int), (q : Int))) hbx; have hsl := HX.out.slice ht; rw [HMN'.out] at hsl; have HSl := hide hsl; have HT := hide ht; clear ht hbx hsl))
                      | (at_builtin; go_must (have _t := tok; refine wpList_append_cut _ rfl (.tmp 95) (.tmp 97) 24 rfl 26 i26 (.agg zeroA) 4 40 Yba.underlying24 hi26 hy0 hy1 hy2 rfl (by decide) ao' n' cap' (flat ms') rfl (slc_box HSl.out _) ⟨w5.heap.size, 0, none⟩ 1 1 (mc (wrap64 (A + (j : Int)), (j : Int), (q : Int))) rfl rfl (mc_news (wrap64 (A + (j : Int)), (j : Int), (q : Int)) _ rfl) (mc_one _) (by decide) (by unfold maxLen; omega) (by omega) ?_; intro ao2 cap2 w6 hs6 ho6 how6; have HN := hide (HX.out.push HT.out (by rw [HMN'.out]; exact hs6) ho6 how6); have HO6 := hide ((((Outside.refl _ w5).alloc _).trans ho6).obj (turned_box HT.out ((Below.heap_alloc _ _ _ hbl).trans HBX.out.2) HBX.out.1) (HX.out.sl.not_own ((Below.heap_alloc _ _ _ hbl).trans HBX.out.2) (by decide))); clear hs6 ho6 how6 tok _t)))
                    go_roundw
                    case rel =>
                      obtain ⟨F2, hn, hF2⟩ := HN.out
                      refine ⟨j + 1, F2, c' + 1, ms' ++ [(wrap64 (A + (j : Int)), (j : Int), (q : Int))], n' + 1, ao2, cap2, by omega, by go_num, rfl, by simp [HMN'.out], hn, by omega, fun hm => ?_, HO6.out⟩
                      rcases hF2 _ hm with h | h
                      · exact HBX.out.1 h
                      · simp at h; omega
                    case measure => simp [intOf]; omega
                  · clear hI' hmn' hob hbox
                    go_wp2
                    go_roundw
                    case rel => exact ⟨q + 1, F', c', ms', n', ao', cap', by omega, by go_num, rfl, HMN'.out, HI'.out, by omega⟩
                    case measure => simp [intOf]; omega
        · have c2 := hI.ll.count
          rw [hmn] at c2
          have cs : wr.cell? ⟨w.heap.size, 0, none⟩ = some (.int .u8 stop) := cell_of_one hI.bs
          have hFl := hI.ll.lt
          have hbsl := lt_of_block hI.bs
          have hLl := hFl L hI.ll.memL
          have cs2 : ((wr.alloc (.cells #[.slice none 0 0] 24)).alloc (.cells #[.pointer (some ⟨L, 0, none⟩)] 76)).cell? ⟨w.heap.size, 0, none⟩ = some (.int .u8 stop) := (((Outside.refl [] wr).alloc _).alloc _).cell cs (by simp)
          have hV := iter_stop L F c ms wr.heap.size (wr.heap.size + 1) w.heap.size stop _ hI.iter0 hFl (by omega) (by rw [hmn]; omega) hst (by omega) cs2
          have hcase : (((stop : Int) != 0) = false ∧ want stop ms = ms) ∨ (((stop : Int) != 0) = true ∧ n ≤ stop ∧ want stop ms = ms) ∨ (((stop : Int) != 0) = true ∧ stop < n ∧ want stop ms = ms.take stop ∧ ∃ g of, ao = some ⟨g, of, none⟩) := by
            unfold want
            by_cases h0 : stop = 0
            · exact .inl ⟨by simp [h0], by simp [h0]⟩
            · have hb : ((stop : Int) != 0) = true := by rw [bne_iff_ne]; omega
              by_cases h1 : stop < n
              · obtain ⟨g, of, cur, hao, _⟩ := HSL0.at_ (by omega)
                exact .inr (.inr ⟨hb, h1, by simp [h0], g, of, hao⟩)
              · exact .inr (.inl ⟨hb, by omega, by rw [if_neg h0, List.take_of_length_le (by omega)]⟩)
          have HF := hide hFl
          clear hI hmn HSL0 HS1 HI0 hFl cs2
          rcases hcase with ⟨q1, q2⟩ | ⟨q1, q3, q2⟩ | ⟨q1, q3, q2, g, of, rfl⟩
          · rw [q2] at hV
            have HV := hide hV
            clear hV q2
            have tok1 : True := trivial
            have tok2 : True := trivial
            have tok3 : True := trivial
            go_wp2_with (first
              | (go_at_call 11; go_must (refine (values_any L _).mono ?_; rintro e w5 ⟨rfl, rfl⟩))
              | (go_at_call 23; have _t := tok1; go_must (refine (unhide HV).mono ?_; rintro e w5 ⟨rfl, hit⟩; obtain ⟨hI5, aoG, capG, hG, hsG⟩ := HI.out.iter1 hit; rw [HMN.out] at hG hsG; have cs5 : w5.cell? ⟨w.heap.size, 0, none⟩ = some (.int .u8 stop) := cell_of_one hI5.bs; have cG : w5.cell? ⟨wr.heap.size, 0, none⟩ = some (.slice aoG n capG) := cell_of_one hG; have HSG := hide hsG; have HI5 := hide hI5; have hsm := hI5.sl; rw [HMN.out] at hsm; have HSM := hide hsm; clear hit hI5 hG hsG hsm tok1 _t))
              | (go_at_call 12; have _t := tok2; go_must (refine (eq_same _ _ _ _ n ms w5 HSG.out HSM.out HMN.out (by omega)).mono ?_; rintro e w6 ⟨rfl, ho6⟩; have hI6 := HI5.out.grow ho6; have HV2 := hide (iter_all L F c ms w6.heap.size (w6.heap.size + 1) _ hI6.iter0 hI6.ll.lt (by omega) (by rw [HMN.out]; omega)); have HI6 := hide hI6; clear ho6 hI6 tok2 _t))
              | (go_at_call 23; have _t := tok3; go_must (refine (unhide HV2).mono ?_; rintro e w7 ⟨rfl, hit⟩; obtain ⟨hI7, aoA, capA, hA, hsA⟩ := HI6.out.iter1 hit; rw [HMN.out] at hA hsA; have c27 := hI7.ll.count; rw [HMN.out] at c27; have cA : w7.cell? ⟨w6.heap.size, 0, none⟩ = some (.slice aoA n capA) := cell_of_one hA; have HSA := hide hsA; have HI7 := hide hI7; have hsm7 := hI7.sl; rw [HMN.out] at hsm7; have HSM7 := hide hsm7; clear hit hI7 hA hsA hsm7 tok3 _t))
              | (go_at_call 12; have _t := HSA; go_must (refine (eq_same _ _ _ _ n ms w7 HSA.out HSM7.out HMN.out (by omega)).mono ?_; rintro e w8 ⟨rfl, ho8⟩; have HB8 := hide (HI7.out.grow ho8).bel; clear ho8 HSA _t)))
            go_ret
            exact ⟨rfl, HB8.out⟩
          · rw [q2] at hV
            have HV := hide hV
            clear hV q2
            have tok1 : True := trivial
            have tok2 : True := trivial
            have tok3 : True := trivial
            go_wp2_with (first
              | (go_at_call 11; go_must (refine (values_any L _).mono ?_; rintro e w5 ⟨rfl, rfl⟩))
              | (go_at_call 23; have _t := tok1; go_must (refine (unhide HV).mono ?_; rintro e w5 ⟨rfl, hit⟩; obtain ⟨hI5, aoG, capG, hG, hsG⟩ := HI.out.iter1 hit; rw [HMN.out] at hG hsG; have cs5 : w5.cell? ⟨w.heap.size, 0, none⟩ = some (.int .u8 stop) := cell_of_one hI5.bs; have cG : w5.cell? ⟨wr.heap.size, 0, none⟩ = some (.slice aoG n capG) := cell_of_one hG; have HSG := hide hsG; have HI5 := hide hI5; have hsm := hI5.sl; rw [HMN.out] at hsm; have HSM := hide hsm; clear hit hI5 hG hsG hsm tok1 _t))
              | (go_at_call 12; have _t := tok2; go_must (refine (eq_same _ _ _ _ n ms w5 HSG.out HSM.out HMN.out (by omega)).mono ?_; rintro e w6 ⟨rfl, ho6⟩; have hI6 := HI5.out.grow ho6; have HV2 := hide (iter_all L F c ms w6.heap.size (w6.heap.size + 1) _ hI6.iter0 hI6.ll.lt (by omega) (by rw [HMN.out]; omega)); have HI6 := hide hI6; clear ho6 hI6 tok2 _t))
              | (go_at_call 23; have _t := tok3; go_must (refine (unhide HV2).mono ?_; rintro e w7 ⟨rfl, hit⟩; obtain ⟨hI7, aoA, capA, hA, hsA⟩ := HI6.out.iter1 hit; rw [HMN.out] at hA hsA; have c27 := hI7.ll.count; rw [HMN.out] at c27; have cA : w7.cell? ⟨w6.heap.size, 0, none⟩ = some (.slice aoA n capA) := cell_of_one hA; have HSA := hide hsA; have HI7 := hide hI7; have hsm7 := hI7.sl; rw [HMN.out] at hsm7; have HSM7 := hide hsm7; clear hit hI7 hA hsA hsm7 tok3 _t))
              | (go_at_call 12; have _t := HSA; go_must (refine (eq_same _ _ _ _ n ms w7 HSA.out HSM7.out HMN.out (by omega)).mono ?_; rintro e w8 ⟨rfl, ho8⟩; have HB8 := hide (HI7.out.grow ho8).bel; clear ho8 HSA _t)))
            go_ret
            exact ⟨rfl, HB8.out⟩
          · rw [q2] at hV
            have HV := hide hV
            clear hV q2
            have hcut : ∀ W, (Instr.slice 24 (.slice (some ⟨g, of, none⟩) n cap) none (some (.int .i64 (stop : Int))) none).run Yba.prog W = .ok (.slice (some ⟨g, of, none⟩) (stop : Int).toNat cap) W := run_front (P := Yba.prog) 24 26 4 Yba.underlying24 Yba.size26 g of n cap _ (by omega) (by omega)
            rw [Int.toNat_natCast] at hcut
            have HTL : Hid ((ms.take stop).length = stop) := by show _ = _; rw [List.length_take, HMN.out]; omega
            have tok1 : True := trivial
            have tok2 : True := trivial
            have tok3 : True := trivial
            go_wp2_with (first
              | (go_at_call 11; go_must (refine (values_any L _).mono ?_; rintro e w5 ⟨rfl, rfl⟩))
              | (go_at_call 23; have _t := tok1; go_must (refine (unhide HV).mono ?_; rintro e w5 ⟨rfl, hit⟩; obtain ⟨hI5, aoG, capG, hG, hsG⟩ := HI.out.iter1 hit; rw [HTL.out] at hG hsG; have cs5 : w5.cell? ⟨w.heap.size, 0, none⟩ = some (.int .u8 stop) := cell_of_one hI5.bs; have cG : w5.cell? ⟨wr.heap.size, 0, none⟩ = some (.slice aoG stop capG) := cell_of_one hG; have HSG := hide hsG; have HI5 := hide hI5; have hsm := hI5.sl; rw [HMN.out] at hsm; have hsm2 := hsm.front stop (by omega); rw [flat_take] at hsm2; have HSM := hide hsm2; clear hit hI5 hG hsG hsm hsm2 tok1 _t))
              | (go_at_call 12; have _t := tok2; go_must (refine (eq_same _ _ _ _ stop (ms.take stop) w5 HSG.out HSM.out HTL.out (by omega)).mono ?_; rintro e w6 ⟨rfl, ho6⟩; have hI6 := HI5.out.grow ho6; have HV2 := hide (iter_all L F c ms w6.heap.size (w6.heap.size + 1) _ hI6.iter0 hI6.ll.lt (by omega) (by rw [HMN.out]; omega)); have HI6 := hide hI6; clear ho6 hI6 tok2 _t))
              | (go_at_call 23; have _t := tok3; go_must (refine (unhide HV2).mono ?_; rintro e w7 ⟨rfl, hit⟩; obtain ⟨hI7, aoA, capA, hA, hsA⟩ := HI6.out.iter1 hit; rw [HMN.out] at hA hsA; have c27 := hI7.ll.count; rw [HMN.out] at c27; have cA : w7.cell? ⟨w6.heap.size, 0, none⟩ = some (.slice aoA n capA) := cell_of_one hA; have HSA := hide hsA; have HI7 := hide hI7; have hsm7 := hI7.sl; rw [HMN.out] at hsm7; have HSM7 := hide hsm7; clear hit hI7 hA hsA hsm7 tok3 _t))
              | (go_at_call 12; have _t := HSA; go_must (refine (eq_same _ _ _ _ n ms w7 HSA.out HSM7.out HMN.out (by omega)).mono ?_; rintro e w8 ⟨rfl, ho8⟩; have HB8 := hide (HI7.out.grow ho8).bel; clear ho8 HSA _t)))
            go_ret
            exact ⟨rfl, HB8.out⟩
end Go.Proofs.Ybulkduge
