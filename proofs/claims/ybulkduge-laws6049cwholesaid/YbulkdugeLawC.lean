/-
  THE WALK OF 'LawS6049CWhole' (5).
-/
import Derived.Test.YbulkdugeCInv
import Derived.Deep.DeepCutAuto
import Derived.Deep.RegionLaw
import Derived.Deep.CutBlock
namespace Go.Proofs.Ybulkduge
open Go.RowKit
set_option linter.unusedVariables false

set_option maxRecDepth 100000 in
set_option maxHeartbeats 400000 in
theorem lawC_long (sd : Nat) (runs : Int) (a : Option Addr) (len cap : Nat) (w : World) (hl : len ≤ 9223372036854775807) (h : 4096 < len) :
    Calls Yba.prog 5 #[.int .u64 (sd : Int), .int .i64 runs, .slice a len cap] w fun e w' => e = .returned (.bool true) ∧ Below w.heap.size w w' := by
  go_enter Yba.func5, Yba.ntmps5
  go_wp2
  go_ret
  exact ⟨rfl, Below.refl _ _⟩

/-- The value of 'runs' that the law goes on with. -/
def runsN (runs : Int) : Nat := if runs < 0 then (-(runs + 1)).toNat else runs.toNat

theorem runsN_neg {runs : Int} (h : runs < 0) : ((runsN runs : Nat) : Int) = -(runs + 1) := by unfold runsN; rw [if_pos h]; omega
theorem runsN_pos {runs : Int} (h : 0 ≤ runs) : ((runsN runs : Nat) : Int) = runs := by unfold runsN; rw [if_neg (by omega)]; omega
theorem runsN_lt {runs : Int} (h1 : -9223372036854775808 ≤ runs) (h2 : runs ≤ 9223372036854775807) : runsN runs < 9223372036854775808 := by unfold runsN; split <;> omega

theorem lv_start (w : World) (R : Nat) : LV (w.alloc (.cells #[.slice none 0 0] 50)) w.heap.size R none 0 [] := ⟨heap_alloc_new w _, Slc.nil _ _ _ _⟩
theorem ci_start {w w1 : World} {sd R : Nat} (h : TS w1 (w.heap.size + 1 + 1) (w.heap.size + 1) w.heap.size sd R 0 none 0 st0) (ho : Outside [] (w.alloc (.cells #[.slice none 0 0] 50)) w1) : CI w w1 (w.heap.size + 1 + 1) (w.heap.size + 1) w.heap.size sd R none 0 st0 none 0 none 0 [] [] :=
  ⟨h, Slc.nil _ _ _ _, Slc.nil _ _ _ _, by simp [ownB], (((Outside.refl [] w).alloc _).trans ho).below (Below.refl _ _) (Nat.le_refl _) (by simp), by omega, by omega, by omega, by simp [ownB], by simp [ownB], by simp [ownB]⟩

/-- A block that was laid ahead of 'record' stays. -/
theorem rec_box {w0 w w2 : World} {T M LG sd R : Nat} {ao : Option Addr} {cap : Nat} {s s' : CSt} {aw : Option Addr} {cw : Nat} {ae : Option Addr} {ce : Nat} {es : List Ent} {lg : List Pg} {o : Obj} (h : CI w0 w T M LG sd R ao cap s aw cw ae ce es lg) (hr : Recorded T M LG sd R ao cap s' (w.alloc o) w2) : w2.heap[w.heap.size]? = some o := by
  obtain ⟨ao', cap', h1, h2⟩ := hr
  refine h2.out.obj (heap_alloc_new w o) ?_
  have a1 := lt_of_block h.ts.ob
  have a2 := h.ts.mp.lt
  have a3 := lt_of_block h.ts.lv.1
  simp only [List.cons_append, List.nil_append, List.mem_cons, not_or]
  refine ⟨by omega, by omega, by omega, fun hm => ?_⟩
  have := h.ts.lv.2.lt _ hm
  omega
theorem box_cells {w : World} {B : Nat} {u v : Value} (h : w.heap[B]? = some (.cells #[u, v] 58 (0, 0))) : w.cell? ⟨B, 0, none⟩ = some u ∧ w.cell? ⟨B, 1, none⟩ = some v :=
  ⟨by rw [cell_of_row w B 0 _ 58 (0, 0) h]; rfl, by rw [cell_of_row w B 1 _ 58 (0, 0) h]; rfl⟩

theorem ec_news {W : World} (e : Ent) (B : Nat) (hB : B = W.heap.size) : ∀ j u, (ec e)[j]? = some u → (W.alloc (.cells #[.int .u64 (e.1 : Int), .bool e.2] 62)).cell? ((⟨B, 0, none⟩ : Addr).add j) = some u := by
  subst hB
  intro j u hu
  have ea : (⟨W.heap.size, 0, none⟩ : Addr).add j = ⟨W.heap.size, j, none⟩ := by unfold Addr.add; split <;> simp_all
  rw [ea, cell_of_row _ _ _ _ 62 (0, 0) (heap_alloc_new W _)]
  simpa [ec] using hu

theorem Yba.size62 : (Yba.prog.info? 62).map (·.size) = some 2 := by kernel_rfl
/-- Where 'es[j+1:]' begins, and what lies there. -/
theorem cut_news {w : World} {g off n cap : Nat} {es : List Ent} {j : Nat} (h : Slc w 62 2 (some ⟨g, off, none⟩) n cap (flatE es)) (hn : es.length = n) (hj : j < n) :
    ∃ A, cutA g off 2 cap (j + 1) = some A ∧ ∀ i u, (flatE (es.drop (j + 1)))[i]? = some u → w.cell? (A.add i) = some u := by
  have hnc := h.2.1
  unfold cutA
  split
  · rename_i hc
    refine ⟨_, rfl, fun i u hu => ?_⟩
    have : es.drop (j + 1) = [] := List.drop_eq_nil_of_le (by omega)
    rw [this] at hu
    simp [flatE] at hu
  · refine ⟨_, rfl, fun i u hu => ?_⟩
    have ea : (⟨g, off + (j + 1) * 2, none⟩ : Addr).add i = ⟨g, off + ((j + 1) * 2 + i), none⟩ := by
      unfold Addr.add
      split
      · rename_i h0
        subst h0
        rfl
      · simp [Nat.add_assoc]
    have hi := (List.getElem?_eq_some_iff.1 hu).1
    rw [flatE_length, List.length_drop, hn] at hi
    rw [ea, h.cell (by omega) _ (by omega), ← hu, ← flatE_drop, List.getElem?_drop]
theorem cut_spare {w : World} {g off n cap : Nat} {es : List Ent} {j : Nat} (h : Slc w 62 2 (some ⟨g, off, none⟩) n cap (flatE es)) (hn : es.length = n) (hj : j < n) :
    ∀ i, i < (n - (j + 1)) * 2 → (w.cell? ⟨g, off + j * 2 + i, none⟩).isSome = true ∧ w.frozen? ⟨g, off + j * 2 + i, none⟩ = false := by
  intro i hi
  have hnc := h.2.1
  refine ⟨?_, h.frozen (by omega) _⟩
  rw [Nat.add_assoc, h.cell (by omega) _ (by omega)]
  have : j * 2 + i < (flatE es).length := by rw [flatE_length]; omega
  simp [this]
theorem run_front' {P : Program} (t e : TypeId) (size : Nat) (ht : P.underlying t = some (.slice e)) (hz : (P.info? e).map (·.size) = some size) (g off n cap h : Nat) (hh : h ≤ cap) (W : World) :
    (Instr.slice t (.slice (some ⟨g, off, none⟩) n cap) none (some (.int .i64 (h : Int))) none).run P W = .ok (.slice (some ⟨g, off, none⟩) h cap) W := by
  cases hq : P.info? e with
  | none => simp [hq] at hz
  | some i =>
    have ea : (⟨g, off, none⟩ : Addr).add 0 = ⟨g, off, none⟩ := by simp [Addr.add]
    simp [Instr.slice, run_underlying ht, Instr.sliceBounds, Instr.sliceBound, asIntOf, sizeOf, typeInfo, hq, ea]
    omega

theorem tn_step (R c k : Nat) (hk : 1 ≤ k) : tn R c k = if R * k ≤ 10 * c then k else tn R c (k - 1) := by
  obtain ⟨k', rfl⟩ : ∃ k', k = k' + 1 := ⟨k - 1, by omega⟩
  rfl

theorem count_up {R sd : Nat} {m : CSt} {es : List Ent} {f : Bool} (h : m.t < tn R (m.c + 1) 10) : countS R sd { m with es := es } f = ⟨m.c + 1, f, tn R (m.c + 1) 10, es, m.lg ++ [⟨m.c + 1, f, seedV sd (m.c + 1) f⟩]⟩ := by
  simp only [countS, upT, if_pos h]
theorem count_stay {R sd : Nat} {m : CSt} {es : List Ent} {f : Bool} (h : ¬ m.t < tn R (m.c + 1) 10) : countS R sd { m with es := es } f = ⟨m.c + 1, f, m.t, es, m.lg⟩ := by
  simp only [countS, upT, if_neg h]

/-- 'len(m)' of such a map. -/
theorem wpList_len_B (w : World) {ops : Array Oper} {rest : List Oper} {o : Oper} {a : Act} {Q : Exit → Act → World → Prop} (hg : o.guard = none) (m : Operand) (hop : o.op = Op.call { callee := Callee.builtin Builtin.len, args := #[m], argTypes := #[71] })
    (M : Nat) (es : List Ent) (hm : a.eval m = .map (some M)) (h : MapB w M es) (hK : wpList Yba.prog ops Q rest (a.put o.dst (.int .i64 (es.length : Int))) w) : wpList Yba.prog ops Q (o :: rest) a w := by
  refine wpList_plain hg fun K' hK' => ?_
  unfold Oper.wp
  simp [execOp, hop, resolve, invoke, builtin, hm, h.len o.type, Result.andThen]
  exact hK' _ _ hK

theorem pg_cells {w : World} {g off n cap R : Nat} {ps : List Pg} (h : Slc w 54 5 (some ⟨g, off, none⟩) n cap (flatP R ps)) (hn : ps.length = n) (k : Nat) (hk : k < ps.length) :
    w.cell? ⟨g, off + k * 5, none⟩ = some (.int .i64 (R : Int)) ∧ w.cell? ⟨g, off + k * 5 + 1, none⟩ = some (.int .i64 ((ps[k]).c : Int)) ∧ w.cell? ⟨g, off + k * 5 + 2, none⟩ = some (.bool (ps[k]).f) ∧ w.cell? ⟨g, off + k * 5 + 3, none⟩ = some (.int .u64 ((ps[k]).s : Int)) ∧ w.cell? ⟨g, off + k * 5 + 4, none⟩ = some (.bool false) := by
  have hc := h.2.1
  have c : ∀ j, j < n * 5 → w.cell? ⟨g, off + j, none⟩ = (flatP R ps)[j]? := fun j hj => h.cell (by omega) j hj
  have e : ∀ j, j < 5 → w.cell? ⟨g, off + (k * 5 + j), none⟩ = (pc R ps[k])[j]? := fun j hj => by rw [c _ (by omega), flatP_get R ps k hk j hj]
  exact ⟨e 0 (by omega), e 1 (by omega), e 2 (by omega), e 3 (by omega), e 4 (by omega)⟩

def slLen : Value → Nat
  | .slice _ n _ => n
  | _ => 0

set_option maxRecDepth 100000 in
set_option maxHeartbeats 12000000 in
theorem lawC_short (sd : Nat) (runs : Int) (a : Option Addr) (len cap : Nat) (w : World) (hl : len ≤ 4096) (hsd : sd < 2 ^ 64) (hr : -9223372036854775808 ≤ runs ∧ runs ≤ 9223372036854775807)
    (hsrc : 0 < len → ∃ b off, a = some ⟨b, off, none⟩ ∧ b < w.heap.size ∧ ∀ j, j < len → ∃ (i : Nat) (g : Bool), i < 2 ^ 64 ∧ w.cell? ⟨b, off + j * 2, none⟩ = some (.int .u64 (i : Int)) ∧ w.cell? ⟨b, off + j * 2 + 1, none⟩ = some (.bool g)) :
    Calls Yba.prog 5 #[.int .u64 (sd : Int), .int .i64 runs, .slice a len cap] w fun e w' => e = .returned (.bool true) ∧ Below w.heap.size w w' := by
  obtain ⟨i54, hi54, hp0, hp1, hp2⟩ := info_parts Yba.info54
  obtain ⟨i62, hi62, he0, he1, he2⟩ := info_parts Yba.info62
  have HSRC := hide hsrc
  clear hsrc
  obtain ⟨r1, r2⟩ := hr
  go_enter Yba.func5, Yba.ntmps5
  go_upto_if 30 with fail
  go_cut [1] from 29 to 33 (fun r wc => r = .int .i64 (runsN runs : Int) ∧ wc = w)
  case first =>
    by_cases hneg : runs < 0
    · go_wp2
      go_meet
      case rel =>
        refine ⟨?_, rfl⟩
        rw [runsN_neg hneg]
    · go_wp2
      go_meet
      case rel =>
        refine ⟨?_, rfl⟩
        rw [runsN_pos hneg]
  case rest =>
    obtain ⟨rfl, rfl⟩ := hcut
    obtain ⟨w0, rfl⟩ : ∃ w0 : World, w0 = wc := ⟨_, rfl⟩
    have hR := runsN_lt r1 r2
    generalize runsN runs = R at *
    clear r1 r2
    have HT0 := hide (tally_new w0.heap.size sd R (w0.alloc (.cells #[.slice none 0 0] 50)) (lv_start w0 R))
    rw [World.size_alloc] at HT0
    go_wp2_with (go_at_call 15; go_must (refine (unhide HT0).mono ?_; rintro e w1 ⟨rfl, ht, ho, hz⟩; have HC0 := hide (ci_start ht ho); clear ht ho hz))
    clear HT0
    go_loopw [9, 10, 11, 12, 13, 14] (fun wv ev c f t i wr => ∃ (q : Nat) (s : CSt) (ao : Option Addr) (cap1 : Nat) (aw : Option Addr) (cw : Nat) (ae : Option Addr) (ce : Nat), q ≤ len ∧ wv = .slice aw s.lg.length cw ∧ ev = .slice ae s.es.length ce ∧ c = .int .u64 (s.c : Int) ∧ f = .bool s.f ∧ t = .int .i64 (s.t : Int) ∧ i = .int .i64 (q : Int) ∧ Fine q s ∧ CI w0 wr (w0.heap.size + 1 + 1) (w0.heap.size + 1) w0.heap.size sd R ao cap1 s aw cw ae ce s.es s.lg) (fun _ _ _ _ _ i _ => len - (intOf i).toNat)
    case atStart => exact ⟨0, st0, none, 0, none, 0, none, 0, Nat.zero_le _, rfl, rfl, rfl, rfl, rfl, rfl, ⟨by simp [Keys1, st0], by simp [KeysLt, st0], by simp [st0], by simp [st0], by simp [st0]⟩, HC0.out⟩
    case round =>
      clear HC0
      obtain ⟨q, s, ao, cap1, aw, cw, ae, ce, hq, rfl, rfl, rfl, rfl, rfl, rfl, hfi, hci⟩ := hrel
      by_cases hlt : q < len
      · obtain ⟨b, off, ha, hb, hcell⟩ := HSRC.out (by omega)
        obtain ⟨i, g, hi, p0, p1⟩ := hcell q hlt
        have p0' := (hci.bel.cell (p := ⟨b, off + q * 2, none⟩) hb).trans p0
        have p1' := (hci.bel.cell (p := ⟨b, off + q * 2 + 1, none⟩) hb).trans p1
        have hbw : b < wr.heap.size := World.block_lt_of_cell? wr _ p0'
        have hO1 : Outside [] wr (wr.alloc (.cells #[.int .u64 (i : Int), .bool g] 58)) := (Outside.refl [] wr).alloc _
        have hc1 := hci.grow hO1
        have HREC := hide (record_any (w0.heap.size + 1 + 1) (w0.heap.size + 1) w0.heap.size sd R ao cap1 s q i g _ hc1.ts hfi (by omega) hi hsd hR)
        have HC1 := hide hc1
        have HFI := hide hfi
        have HFF := hide (hfi.record (R := R) (sd := sd) hi g)
        have HFP := hide (hfi.put hi g)
        have HCI := hide hci
        have hel : s.es.length ≤ 100000 := by have := hfi.sum; omega
        have HDR : Hid (drain R sd (setE s.es i g).length { s with es := setE s.es i g } = recordS R sd s i g) := rfl
        generalize recordS R sd s i g = fin at *
        clear hcell p0 p1 hci hc1 hfi hO1 HSRC
        subst ha
        go_upto_if 59 with (first
          | (go_at_call 17; go_must (refine (unhide HREC).mono ?_; rintro e w2 ⟨rfl, hrec⟩; have hbx := rec_box HCI.out hrec; obtain ⟨ao2, cap2, hci2⟩ := HC1.out.recorded hrec; obtain ⟨x0, x1⟩ := box_cells hbx; have hbl := lt_of_block hbx; have HC2 := hide hci2; have HFN := hide (find_any ae s.es.length ce s.es i w2 hci2.ev rfl hel); have HBX := hide hbx; clear hrec hci2 hbx))
          | (go_at_call 18; go_must (refine (unhide HFN).mono ?_; rintro e w3 ⟨rfl, hw3⟩; rw [hw3]; clear hw3)))
        go_cut [10, 16] from 38 to 73 (fun ev _ wx => ∃ ae' ce', ev = .slice ae' (setE s.es i g).length ce' ∧ CI w0 wx (w0.heap.size + 1 + 1) (w0.heap.size + 1) w0.heap.size sd R ao2 cap2 fin aw cw ae' ce' (setE s.es i g) s.lg)
        case first =>
          cases hf : fnd s.es i with
          | some j =>
            obtain ⟨f, hj, _⟩ := fnd_some hf
            have hjl := fnd_lt hf
            have hfv : fndI s.es i = (j : Int) := by simp only [fndI, hf]
            have hset : setE s.es i g = s.es.set j (i, g) := by simp only [setE, hf]
            have hec := HC2.out.ev.2.1
            obtain ⟨g0, o0, cur, hae, hcur, _⟩ := HC2.out.ev.at_ (by omega)
            have hgl := lt_of_block hcur
            clear hcur
            subst hae
            obtain ⟨y0, y1⟩ := ent_cells HC2.out.ev rfl j hjl
            have yf := HC2.out.ev.frozen (by omega) (o0 + j * 2 + 1)
            have HN := hide (HC2.out.set (g := g) hj)
            rw [← hset] at HN
            have HL : Hid ((setE s.es i g).length = s.es.length) := by show _ = _; rw [hset, List.length_set]
            generalize s.es[j] = ej at *
            simp only [hfv]
            clear hf hj hfv hset HREC HC1 HC2 HCI HFN
            go_wp2
            go_meet
            case rel => exact ⟨_, ce, by rw [HL.out], HN.out⟩
          | none =>
            have hfv : fndI s.es i = -1 := by simp only [fndI, hf]
            have hset : setE s.es i g = s.es ++ [(i, g)] := by simp only [setE, hf]
            have HSET := hide hset
            have HS2 := hide (HC2.out.grow ((Outside.refl [] w2).alloc (.cells #[.int .u64 (i : Int), .bool g] 62)))
            simp only [hfv]
            clear hf hfv hset HREC HC1 HC2 HCI HFN
            have tok : True := trivial
            go_wp2_with (at_builtin; go_must (have _t := tok; refine wpList_append_cut _ rfl (.tmp 66) (.tmp 72) 56 rfl 62 i62 (.agg #[.int .u64 0, .bool false]) 2 16 Yba.underlying56 hi62 he0 he1 he2 rfl (by decide) ae s.es.length ce (flatE s.es) rfl HS2.out.ev ⟨w2.heap.size, 0, none⟩ 1 1 (ec (i, g)) rfl rfl (ec_news (i, g) _ rfl) (ec_one _) (by decide) (by unfold maxLen; omega) (by omega) ?_; intro ae' ce' w4 hs4 ho4 how4; rw [flatE_snoc, ← HSET.out] at hs4; have HL : Hid ((setE s.es i g).length = s.es.length + 1) := by { show _ = _; rw [HSET.out]; simp }; have HN := hide (HS2.out.ents (by rw [HL.out]; exact hs4) ho4 how4); clear hs4 ho4 how4 tok _t))
            go_meet
            case rel => exact ⟨ae', ce', by rw [HL.out], HN.out⟩
        case rest =>
          obtain ⟨ae3, ce3, rfl, hci3⟩ := hcut
          obtain ⟨w3, rfl⟩ : ∃ w3 : World, w3 = wc := ⟨_, rfl⟩
          have HC3 := hide hci3
          clear hci3 HREC HC1 HFI HCI HC2 HFN HBX x0 x1 hbl p0' p1' hbw hel
          go_upto_block 2 with fail
          go_cut [9, 10, 11, 12, 13] (fun wv ev c f t wx => ∃ aw cw ae ce, wv = .slice aw fin.lg.length cw ∧ ev = .slice ae fin.es.length ce ∧ c = .int .u64 (fin.c : Int) ∧ f = .bool fin.f ∧ t = .int .i64 (fin.t : Int) ∧ CI w0 wx (w0.heap.size + 1 + 1) (w0.heap.size + 1) w0.heap.size sd R ao2 cap2 fin aw cw ae ce fin.es fin.lg)
          case first =>
            go_wp2_with fail
            go_loopw [9, 10, 11, 12, 13] (fun wv ev c f t wx => ∃ (m : CSt) (aw : Option Addr) (cw : Nat) (ae : Option Addr) (ce : Nat), wv = .slice aw m.lg.length cw ∧ ev = .slice ae m.es.length ce ∧ c = .int .u64 (m.c : Int) ∧ f = .bool m.f ∧ t = .int .i64 (m.t : Int) ∧ Fine (q + 1) m ∧ drain R sd m.es.length m = fin ∧ CI w0 wx (w0.heap.size + 1 + 1) (w0.heap.size + 1) w0.heap.size sd R ao2 cap2 fin aw cw ae ce m.es m.lg) (fun _ ev _ _ _ _ => slLen ev)
            case atStart => exact ⟨{ s with es := setE s.es i g }, aw, cw, ae3, ce3, rfl, rfl, rfl, rfl, rfl, HFP.out, HDR.out, HC3.out⟩
            case round =>
              clear HFP HDR HC3
              obtain ⟨m, aw1, cw1, ae1, ce1, rfl, rfl, rfl, rfl, rfl, hfm, hdm, hcm⟩ := hrel
              have HFM := hide hfm
              have HCM := hide hcm
              have hsum := hfm.sum
              have hfn := find_any ae1 m.es.length ce1 m.es m.c wr hcm.ev rfl (by omega)
              cases hmf : m.f with
              | true =>
                have hEq : m = fin := (drain_stop (.inl hmf) _).symm.trans hdm
                have HEQ := hide hEq
                clear hEq hfm hdm hcm hsum hfn
                go_wp2
                go_meet
                case rel =>
                  have hEq := HEQ.out
                  subst hEq
                  exact ⟨aw1, cw1, ae1, ce1, rfl, rfl, rfl, by rw [hmf], rfl, HCM.out⟩
              | false =>
                cases hf : fnd m.es m.c with
                | none =>
                  have hEq : m = fin := (drain_stop (.inr hf) _).symm.trans hdm
                  have HEQ := hide hEq
                  have hfv : fndI m.es m.c = -1 := by simp only [fndI, hf]
                  rw [hfv] at hfn
                  have HFN := hide hfn
                  clear hEq hfm hdm hcm hsum hf hfn hfv
                  go_wp2_with (go_at_call 18; go_must (refine (unhide HFN).mono ?_; rintro e w4 ⟨rfl, hw4⟩; rw [hw4]; clear hw4))
                  go_meet
                  case rel =>
                    have hEq := HEQ.out
                    subst hEq
                    exact ⟨aw1, cw1, ae1, ce1, rfl, rfl, rfl, by rw [hmf], rfl, HCM.out⟩
                | some j =>
                  obtain ⟨f, hj, _⟩ := fnd_some hf
                  have hjl := fnd_lt hf
                  have hfv : fndI m.es m.c = (j : Int) := by simp only [fndI, hf]
                  rw [hfv] at hfn
                  have HFN := hide hfn
                  have hlo := look_of hfm.k1 hj
                  have HGO := hide ((drain_go (R := R) (sd := sd) hmf hf hlo).symm.trans hdm)
                  have HCF := hide (hfm.count (R := R) (sd := sd) hj)
                  have hec := hcm.ev.2.1
                  obtain ⟨g0, o0, cur, hae, hcur, _⟩ := hcm.ev.at_ (by omega)
                  have hgl := lt_of_block hcur
                  subst hae
                  obtain ⟨y0, y1⟩ := ent_cells hcm.ev rfl j hjl
                  have hejf : m.es[j] = (m.c, f) := by rw [List.getElem?_eq_getElem hjl] at hj; simpa using hj
                  rw [hejf] at y0 y1
                  have hdr := hcm.grow ((Outside.refl [] wr).drew)
                  obtain ⟨A, hA, hnews⟩ := cut_news hdr.ev rfl hjl
                  have HNEWS := hide hnews
                  have HSP := hide (cut_spare hdr.ev rfl hjl)
                  have hc1 : ∀ W, (Instr.slice 56 (.slice (some ⟨g0, o0, none⟩) m.es.length ce1) none (some (.int .i64 (j : Int))) none).run Yba.prog W = .ok (.slice (some ⟨g0, o0, none⟩) j ce1) W := run_front' (P := Yba.prog) 56 62 2 Yba.underlying56 Yba.size62 g0 o0 m.es.length ce1 j (by omega)
                  unfold cutA at hA
                  have hwr : IntKind.i64.wrap ((j : Int) + 1) = (j : Int) + 1 := by rw [IntKind.wrap_i64]; omega
                  have hq0 : (0 : Int) ≤ (j : Int) + 1 := by omega
                  have hq1 : (j : Int) + 1 ≤ (m.es.length : Int) := by omega
                  have hq2 : ((j : Int) + 1).toNat = j + 1 := by omega
                  obtain ⟨hse, hso⟩ := slc_erase hdr.ev rfl j hjl
                  have hle : (m.es.eraseIdx j).length = m.es.length - 1 := List.length_eraseIdx_of_lt hjl
                  have HC5 := hide (hdr.ents (es' := m.es.eraseIdx j) (by rw [hle]; exact hse) (by rw [ownB_some (by omega)]; exact hso) (fun g hg => .inl hg))
                  have HNL := hide (show (flatE (m.es.drop (j + 1))).length = (m.es.length - (j + 1)) * 2 by rw [flatE_length, List.length_drop])
                  have HNO := hide (flatE_one (m.es.drop (j + 1)))
                  have HLE := hide hle
                  have hlgm := hfm.lgl
                  have ht10 := hfm.t10
                  clear hf hj hfv hlo hcur hejf hdr hnews hse hso hle hfm hdm hcm hfn
                  generalize flatE (m.es.drop (j + 1)) = news at *
                  go_wp2_with (go_at_call 18; go_must (refine (unhide HFN).mono ?_; rintro e w4 ⟨rfl, hw4⟩; rw [hw4]; clear hw4))
                  go_region_law (refine step_append_room rfl (.tmp 88) (.tmp 92) 56 rfl 62 i62 2 Yba.underlying56 hi62 he1 g0 o0 j ce1 (by simp [Act.eval, Act.put]) A (m.es.length - (j + 1)) (ce1 - (j + 1)) news (by simp [Act.eval, Act.put]) HNL.out HNEWS.out HNO.out (by omega) (by rw [HNL.out]; exact HSP.out) ?_)
                  rw [show j + (m.es.length - (j + 1)) = m.es.length - 1 by omega]
                  generalize wr.drew.setCells g0 (o0 + j * 2) news = w5 at *
                  have hcb : m.c + 1 ≤ 5000 := by omega
                  have HM1 := hide hjl
                  clear HSP HNEWS HNL HNO hc1 hwr hq0 hq1 hq2 hA y0 y1 HFN HCM HFM hjl hec hgl hsum
                  go_wp2_with fail
                  go_loopw [19, 20] (fun nv kv wx => ∃ k : Nat, 1 ≤ k ∧ k ≤ 11 ∧ nv = .int .i64 (tn R (m.c + 1) (k - 1) : Int) ∧ kv = .int .i64 (k : Int) ∧ wx = w5) (fun _ kv _ => 11 - (intOf kv).toNat)
                  case atStart => exact ⟨1, by omega, by omega, rfl, rfl, rfl⟩
                  case round =>
                    obtain ⟨k, hk1, hk11, rfl, rfl, rfl⟩ := hrel
                    by_cases hk : k ≤ 10
                    · have HR := hide (reach_any R k (m.c + 1) wr hR hk (by omega))
                      have hstep := tn_step R (m.c + 1) k hk1
                      by_cases hre : R * k ≤ 10 * (m.c + 1)
                      · rw [show reachB R k (m.c + 1) = true from decide_eq_true hre] at HR
                        rw [if_pos hre] at hstep
                        have HST := hide hstep
                        clear hstep hre
                        go_wp2_with (go_at_call 19; go_must (refine (unhide HR).mono ?_; rintro e w6 ⟨rfl, hw6⟩; rw [hw6]; clear hw6))
                        go_roundw
                        case rel => exact ⟨k + 1, by omega, by omega, by simp only [Nat.add_sub_cancel, HST.out], by go_num, by first | rfl | trivial⟩
                        case measure => simp [intOf]; omega
                      · rw [show reachB R k (m.c + 1) = false from decide_eq_false hre] at HR
                        rw [if_neg hre] at hstep
                        have HST := hide hstep
                        clear hstep hre
                        go_wp2_with (go_at_call 19; go_must (refine (unhide HR).mono ?_; rintro e w6 ⟨rfl, hw6⟩; rw [hw6]; clear hw6))
                        go_roundw
                        case rel => exact ⟨k + 1, by omega, by omega, by simp only [Nat.add_sub_cancel, HST.out], by go_num, by first | rfl | trivial⟩
                        case measure => simp [intOf]; omega
                    · obtain rfl : k = 11 := by omega
                      have ht10' := tn_le R (m.c + 1) 10
                      rw [show 11 - 1 = 10 from rfl]
                      by_cases hup : m.t < tn R (m.c + 1) 10
                      · have hcs := count_up (sd := sd) (es := m.es.eraseIdx j) (f := f) hup
                        rw [hcs] at HGO HCF
                        have hseed : f = true → IntKind.u64.wrap (IntKind.u64.wrap ((sd : Int) + ((m.c : Int) + 1)) - 1) = ((seedV sd (m.c + 1) true : Nat) : Int) := fun _ => seed_val sd (m.c + 1) (by omega)
                        have HSD := hide hseed
                        clear hcs hseed
                        generalize tn R (m.c + 1) 10 = tt at *
                        cases f with
                        | true =>
                          go_upto_region 39 with fail
                          rw [HSD.out rfl]
                          have tok : True := trivial
                          go_wp2_with (at_builtin; go_must (have _t := tok; refine wpList_append_cut _ rfl (.tmp 121) (.tmp 123) 50 rfl 54 i54 (.agg zeroP) 5 40 Yba.underlying50 hi54 hp0 hp1 hp2 rfl (by decide) aw1 m.lg.length cw1 (flatP R m.lg) rfl (slc_two' HC5.out.wv _ _) ⟨wr.heap.size + 1, 0, none⟩ 1 1 (pc R ⟨m.c + 1, true, seedV sd (m.c + 1) true⟩) rfl rfl (pc_news R ⟨m.c + 1, true, seedV sd (m.c + 1) true⟩ _ (by simp)) (pc_one R _) (by decide) (by unfold maxLen; omega) (by omega) ?_; intro aw6 cw6 w6 hs6 ho6 how6; rw [flatP_snoc] at hs6; have HN := hide ((HC5.out.grow (((Outside.refl [] wr).alloc _).alloc _)).wants (lg' := m.lg ++ [⟨m.c + 1, true, seedV sd (m.c + 1) true⟩]) (by simpa using hs6) ho6 how6); clear hs6 ho6 how6 tok _t))
                          go_roundw
                          case rel => exact ⟨⟨m.c + 1, true, tt, m.es.eraseIdx j, m.lg ++ [⟨m.c + 1, true, seedV sd (m.c + 1) true⟩]⟩, aw6, cw6, some ⟨g0, o0, none⟩, ce1, by simp, by rw [HLE.out], rfl, rfl, rfl, HCF.out, HGO.out, HN.out⟩
                          case measure => simp [slLen]; have := HM1.out; omega
                        | false =>
                          have tok : True := trivial
                          go_wp2_with (at_builtin; go_must (have _t := tok; refine wpList_append_cut _ rfl (.tmp 121) (.tmp 123) 50 rfl 54 i54 (.agg zeroP) 5 40 Yba.underlying50 hi54 hp0 hp1 hp2 rfl (by decide) aw1 m.lg.length cw1 (flatP R m.lg) rfl (slc_two' HC5.out.wv _ _) ⟨wr.heap.size + 1, 0, none⟩ 1 1 (pc R ⟨m.c + 1, false, 0⟩) rfl rfl (pc_news R ⟨m.c + 1, false, 0⟩ _ (by simp)) (pc_one R _) (by decide) (by unfold maxLen; omega) (by omega) ?_; intro aw6 cw6 w6 hs6 ho6 how6; rw [flatP_snoc] at hs6; have HN := hide ((HC5.out.grow (((Outside.refl [] wr).alloc _).alloc _)).wants (lg' := m.lg ++ [⟨m.c + 1, false, 0⟩]) (by simpa using hs6) ho6 how6); clear hs6 ho6 how6 tok _t))
                          go_roundw
                          case rel => exact ⟨⟨m.c + 1, false, tt, m.es.eraseIdx j, m.lg ++ [⟨m.c + 1, false, 0⟩]⟩, aw6, cw6, some ⟨g0, o0, none⟩, ce1, by simp, by rw [HLE.out], rfl, rfl, rfl, HCF.out, HGO.out, HN.out⟩
                          case measure => simp [slLen]; have := HM1.out; omega
                      · have hcs := count_stay (sd := sd) (es := m.es.eraseIdx j) (f := f) hup
                        rw [hcs] at HGO HCF
                        clear hcs
                        generalize tn R (m.c + 1) 10 = tt at *
                        go_wp2
                        go_roundw
                        case rel => exact ⟨⟨m.c + 1, f, m.t, m.es.eraseIdx j, m.lg⟩, aw1, cw1, some ⟨g0, o0, none⟩, ce1, rfl, by rw [HLE.out], rfl, rfl, rfl, HCF.out, HGO.out, HC5.out⟩
                        case measure => simp [slLen]; have := HM1.out; omega
          case rest =>
            obtain ⟨aw5, cw5, ae5, ce5, rfl, rfl, rfl, rfl, rfl, hci5⟩ := hcut
            obtain ⟨w5, rfl⟩ : ∃ w5 : World, w5 = wc := ⟨_, rfl⟩
            obtain ⟨d0, d1, d2, d3, d5, d6, d7, d8⟩ := tob_cell hci5.ts.ob
            have hlT := lt_of_block hci5.ts.ob
            have HC5 := hide hci5
            have HMB := hide hci5.ts.mp
            clear hci5 HFP HDR HC3 d0 d3
            have tok : True := trivial
            go_wp2_with (have _t := tok; at_len; refine wpList_len_B _ rfl (.tmp 164) rfl (w0.heap.size + 1) fin.es rfl HMB.out ?_; clear tok _t)
            clear HMB d1 d2 d5 d6 d7 d8 hlT
            go_loopw [22] (fun iv wr => ∃ k : Nat, k ≤ fin.es.length ∧ iv = .int .i64 (k : Int) ∧ CI w0 wr (w0.heap.size + 1 + 1) (w0.heap.size + 1) w0.heap.size sd R ao2 cap2 fin aw5 cw5 ae5 ce5 fin.es fin.lg) (fun iv _ => fin.es.length - (intOf iv).toNat)
            case atStart => exact ⟨0, Nat.zero_le _, rfl, HC5.out⟩
            case round =>
              clear HC5
              obtain ⟨k, hk, rfl, hcr⟩ := hrel
              have HCR := hide hcr
              have hfs := HFF.out.sum
              by_cases hkl : k < fin.es.length
              · have hec := hcr.ev.2.1
                obtain ⟨g1, o1, cur, hae, hcur, _⟩ := hcr.ev.at_ (by omega)
                have hgl := lt_of_block hcur
                subst hae
                obtain ⟨y0, y1⟩ := ent_cells hcr.ev rfl k hkl
                have hget : fin.es[k]? = some fin.es[k] := List.getElem?_eq_getElem hkl
                have hxl : (fin.es[k]).1 < 2 ^ 64 := HFF.out.kl _ (List.getElem_mem hkl)
                have hlk : ∀ n, (Instr.lookup 71 (.map (some (w0.heap.size + 1))) (.int .u64 ((fin.es[k]).1 : Int)) true).run Yba.prog (wr.drewN n) = .ok (.tuple #[.bool (fin.es[k]).2, .bool true]) (wr.drewN n) := fun n => by
                  have h1 := ((HCR.out.grow ((Outside.refl [] wr).drewN n)).ts.mp).look hxl
                  rw [look_of (k := (fin.es[k]).1) (f := (fin.es[k]).2) HFF.out.k1 hget] at h1
                  exact h1
                have d7 := (tob_cell hcr.ts.ob).2.2.2.2.2.2.1
                have hlT := lt_of_block hcr.ts.ob
                clear hget hcur hcr
                generalize fin.es[k] = e at *
                obtain ⟨x, bb⟩ := e
                simp only at y0 y1 hlk hxl
                cases bb with
                | true =>
                  go_wp2_with fail
                  go_quiet (fail)
                  go_wp2
                  go_roundw
                  case rel => exact ⟨k + 1, by omega, by go_num, HCR.out.grow ((Outside.refl [] wr).drewN nq)⟩
                  case measure => simp [intOf]; omega
                | false =>
                  go_wp2_with fail
                  go_quiet (fail)
                  go_wp2
                  go_roundw
                  case rel => exact ⟨k + 1, by omega, by go_num, HCR.out.grow ((Outside.refl [] wr).drewN nq)⟩
                  case measure => simp [intOf]; omega
              · have e0 : wr.cell? ⟨w0.heap.size, 0, none⟩ = some (.slice ao2 fin.lg.length cap2) := by rw [cell_of_row wr _ 0 _ 50 (0, 0) hcr.ts.lv.1]; rfl
                have hl0 := lt_of_block hcr.ts.lv.1
                have hlg := HFF.out.lgl
                clear hcr hfs
                go_wp2
                obtain ⟨w7, rfl⟩ : ∃ w7 : World, w7 = wr := ⟨_, rfl⟩
                clear e0 hl0
                go_loopw [25] (fun iv wr => ∃ k : Nat, k ≤ fin.lg.length ∧ iv = .int .i64 (k : Int) ∧ CI w0 wr (w0.heap.size + 1 + 1) (w0.heap.size + 1) w0.heap.size sd R ao2 cap2 fin aw5 cw5 ae5 ce5 fin.es fin.lg) (fun iv _ => fin.lg.length - (intOf iv).toNat)
                case atStart => exact ⟨0, Nat.zero_le _, rfl, HCR.out⟩
                case round =>
                  clear HCR
                  obtain ⟨k, hk, rfl, hcr⟩ := hrel
                  have HCR := hide hcr
                  have hfs := HFF.out.sum
                  have e0 : wr.cell? ⟨w0.heap.size, 0, none⟩ = some (.slice ao2 fin.lg.length cap2) := by rw [cell_of_row wr _ 0 _ 50 (0, 0) hcr.ts.lv.1]; rfl
                  have hl0 := lt_of_block hcr.ts.lv.1
                  by_cases hkl : k < fin.lg.length
                  · have hec := hcr.wv.2.1
                    have hec2 := hcr.ts.lv.2.2.1
                    obtain ⟨g1, o1, cur, hae, hcur, _⟩ := hcr.wv.at_ (by omega)
                    obtain ⟨g2, o2, cur2, hae2, hcur2, _⟩ := hcr.ts.lv.2.at_ (by omega)
                    have hgl := lt_of_block hcur
                    have hgl2 := lt_of_block hcur2
                    subst hae hae2
                    obtain ⟨y0, y1, y2, y3, y4⟩ := pg_cells hcr.wv rfl k hkl
                    obtain ⟨z0, z1, z2, z3, z4⟩ := pg_cells hcr.ts.lv.2 rfl k hkl
                    clear hcur hcur2 hcr
                    generalize fin.lg[k] = e at *
                    obtain ⟨x, bb, y⟩ := e
                    simp only at y0 y1 y2 y3 y4 z0 z1 z2 z3 z4
                    go_wp2_with fail
                    go_quiet (fail)
                    go_wp2
                    go_roundw
                    case rel => exact ⟨k + 1, by omega, by go_num, HCR.out.grow ((Outside.refl [] wr).drewN nq)⟩
                    case measure => simp [intOf]; omega
                  · clear hcr hfs
                    go_wp2
                    go_roundw
                    case rel => exact ⟨q + 1, fin, ao2, cap2, aw5, cw5, ae5, ce5, by omega, rfl, rfl, rfl, rfl, rfl, by go_num, HFF.out, HCR.out⟩
                    case measure => simp [intOf]; omega
      · have HB := hide hci.bel
        clear hci hfi
        go_wp2
        go_ret
        exact ⟨rfl, HB.out⟩

end Go.Proofs.Ybulkduge
