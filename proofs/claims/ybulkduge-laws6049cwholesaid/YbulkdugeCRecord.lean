/-
  THE WALK OF '(*checkedTally).record' (17) AND OF 'newCheckedTally' (15) (law C).
-/
import Derived.Test.YbulkdugeCCount
import Derived.Conc.MuLone
import Derived.Defers
namespace Go.Proofs.Ybulkduge
open Go.RowKit Go.MuLone
set_option linter.unusedVariables false

/-- The tally in memory is the plain s. -/
structure TS (w : World) (T M LG sd R lock : Nat) (ao : Option Addr) (cap : Nat) (s : CSt) : Prop where
  ob : w.heap[T]? = some (tob LG sd R lock s.c s.f M s.t)
  mp : MapB w M s.es
  lv : LV w LG R ao cap s.lg

section
variable {w w' : World} {T M LG sd R lock : Nat} {ao : Option Addr} {cap : Nat} {s : CSt}
theorem TS.t_own (h : TS w T M LG sd R lock ao cap s) : T ∉ ownB ao cap := h.lv.2.not_own' h.ob (by decide)
theorem TS.t_ne (h : TS w T M LG sd R lock ao cap s) : T ≠ LG := by
  rintro rfl
  have h1 := h.ob
  rw [h.lv.1] at h1
  simp [tob] at h1
theorem TS.m_own (h : TS w T M LG sd R lock ao cap s) : M ∉ ownB ao cap := h.mp.not_own h.lv.2
theorem TS.m_t (h : TS w T M LG sd R lock ao cap s) : M ≠ T := fun e => h.mp.ne h.ob e.symm
theorem TS.m_l (h : TS w T M LG sd R lock ao cap s) : M ≠ LG := fun e => h.mp.ne h.lv.1 e.symm
theorem TS.outside {S : List Nat} (h : TS w T M LG sd R lock ao cap s) (ho : Outside S w w') (hT : T ∉ S) (hM : M ∉ S) (hL : LG ∉ S) (ha : ∀ g ∈ ownB ao cap, g ∉ S) : TS w' T M LG sd R lock ao cap s :=
  ⟨ho.obj h.ob hT, h.mp.outside ho hM, h.lv.outside ho hL ha⟩
/-- The lock turned. -/
theorem TS.locked (h : TS w T M LG sd R lock ao cap s) (l : Nat) : TS (w.setCell ⟨T, 3, none⟩ (.int .i32 (l : Int))) T M LG sd R l ao cap s := by
  have hO : Outside [T] w (w.setCell ⟨T, 3, none⟩ (.int .i32 (l : Int))) := (Outside.refl [T] w).setCell T 3 (.inl (by simp)) _
  exact ⟨(tob_set h.ob).2.2.2 l, h.mp.outside hO (by simp; exact h.m_t), h.lv.outside hO (by simp; exact fun e => h.t_ne e.symm) (fun g hg => by simp; rintro rfl; exact h.t_own hg)⟩
/-- The map turned. -/
theorem TS.map {es : List Ent} (h : TS w T M LG sd R lock ao cap s) (hm : MapB w' M es) (ho : Outside [M] w w') : TS w' T M LG sd R lock ao cap { s with es := es } :=
  ⟨ho.obj h.ob (by simp; exact fun e => h.m_t e.symm), hm, h.lv.outside ho (by simp; exact fun e => h.m_l e.symm) (fun g hg => by simp; rintro rfl; exact h.m_own hg)⟩
/-- Counted. -/
theorem TS.counted {g : Bool} (h : TS w T M LG sd R 1 ao cap s) (hc : Counted T LG sd R s.c M s.t g ao cap s.lg w w') : ∃ ao' cap', TS w' T M LG sd R 1 ao' cap' (countS R sd s g) ∧ Turn [T, M, LG] w w' ao cap ao' cap' := by
  obtain ⟨ao', cap', h1, h2, h3⟩ := hc
  refine ⟨ao', cap', ⟨h1, h.mp.outside h3.out ?_, h2⟩, h3.mono (by simp)⟩
  simp only [List.cons_append, List.nil_append, List.mem_cons, not_or]
  exact ⟨h.m_t, h.m_l, h.m_own⟩
end

/-- How many entries the map in block M has. -/
def mLen (M : Nat) (w : World) : Nat := match w.heap[M]? with
  | some (.map es _) => es.size
  | _ => 0
theorem mLen_eq {w : World} {M : Nat} {es : List Ent} (h : MapB w M es) : mLen M w = es.length := by
  obtain ⟨h1, h2, D, ⟨es', clock, hb, F, hs, rfl⟩, h4, _⟩ := h
  have : es'.size = es.length := by simpa [Maps.size, length_sorted] using h4
  simp [mLen, hb, this]

/-- What 'record' leaves. -/
def Recorded (T M LG sd R : Nat) (ao : Option Addr) (cap : Nat) (s' : CSt) (w w' : World) : Prop :=
  ∃ ao' cap', TS w' T M LG sd R 0 ao' cap' s' ∧ Turn [T, M, LG] w w' ao cap ao' cap'

theorem rec_end {w wr : World} {T M LG sd R : Nat} {ao ao1 : Option Addr} {cap cap1 : Nat} {s1 fin : CSt} (hs : TS wr T M LG sd R 1 ao1 cap1 s1) (ht : Turn [T, M, LG] w wr ao cap ao1 cap1) (hd : drain R sd s1.es.length s1 = fin) (hst : s1.f = true ∨ fnd s1.es s1.c = none) (m : Nat) :
    Recorded T M LG sd R ao cap fin w ((wr.drewN m).setCell ⟨T, 3, none⟩ (.int .i32 0)) := by
  rw [drain_stop hst] at hd
  subst hd
  have hs' : TS (wr.drewN m) T M LG sd R 1 ao1 cap1 s1 := hs.outside ((Outside.refl [] wr).drewN m) (by simp) (by simp) (by simp) (by simp)
  exact ⟨ao1, cap1, hs'.locked 0, ht.trans (Turn.of_out (((Outside.refl [T, M, LG] wr).drewN m).setCell T 3 (.inl (by simp)) _) ao1 cap1)⟩

set_option maxRecDepth 100000 in
set_option maxHeartbeats 1000000 in
theorem record_any (T M LG sd R : Nat) (ao : Option Addr) (cap : Nat) (s : CSt) (n i : Nat) (g : Bool) (w : World) (h : TS w T M LG sd R 0 ao cap s) (hf : Fine n s) (hn : n ≤ 80000) (hi : i < 2 ^ 64) (hsd : sd < 2 ^ 64) (hR : R < 9223372036854775808) :
    Calls Yba.prog 17 #[.pointer (some ⟨T, 0, none⟩), .int .u64 (i : Int), .bool g] w fun e w' => e = .returned (.tuple #[]) ∧ Recorded T M LG sd R ao cap (recordS R sd s i g) w w' := by
  obtain ⟨c0, c1, c2, c3, c5, c6, c7, c8⟩ := tob_cell h.ob
  have f3 := tob_free h.ob 3
  have hlt := lt_of_block h.ob
  have h1 := h.locked 1
  have hsum := hf.sum
  obtain ⟨w2, hrun, hmb, hout⟩ := h1.mp.put (k := i) hi g (by unfold maxLen; omega)
  have hrun1 : (Instr.mapUpdate 71 (.map (some M)) (.int .u64 (i : Int)) (.bool g)).run Yba.prog (w.setCell ⟨T, 3, none⟩ (.int .i32 1)) = .ok () w2 := hrun
  have h2 := h1.map hmb hout
  have hT1 : Turn [T, M, LG] w (w.setCell ⟨T, 3, none⟩ (.int .i32 ((1 : Nat) : Int))) ao cap ao cap := Turn.of_out ((Outside.refl _ w).setCell T 3 (.inl (by simp)) _) ao cap
  have hT2 := hT1.trans (Turn.of_out (hout.mono (T := [T, M, LG]) (by simp)) ao cap)
  have H2 := hide h2
  have HT2 := hide hT2
  have HF := hide (hf.put (i := i) hi g)
  have HD : Hid (drain R sd (setE s.es i g).length { s with es := setE s.es i g } = recordS R sd s i g) := rfl
  generalize recordS R sd s i g = fin at *
  clear h h1 h2 hmb hout hT1 hT2 hf hsum hrun
  go_enter_defers Yba.func17, Yba.ntmps17
  go_wp2_with (go_at_call 24; refine (lock_free Yba.muLib ⟨T, 3, none⟩ _ c3 f3).mono ?_; rintro e w' ⟨rfl, rfl⟩)
  go_loopw [21] (fun _ wr => ∃ s ao' cap', TS wr T M LG sd R 1 ao' cap' s ∧ Fine (n + 1) s ∧ drain R sd s.es.length s = fin ∧ Turn [T, M, LG] w wr ao cap ao' cap') (fun _ wr => mLen M wr)
  case atStart => exact ⟨_, ao, cap, H2.out, HF.out, HD.out, HT2.out⟩
  case round =>
    obtain ⟨s1, ao1, cap1, hts, hfi, hdr, htu⟩ := hrel
    obtain ⟨d0, d1, d2, d3, d5, d6, d7, d8⟩ := tob_cell hts.ob
    have g3 := tob_free hts.ob 3
    have hlr := lt_of_block hts.ob
    have HS := hide hts
    have HFI := hide hfi
    have HDR := hide hdr
    have HTU := hide htu
    clear c0 c1 c2 c3 c5 c6 c7 c8 hts hfi hdr htu d0 d1 d2 d8
    cases hsf : s1.f with
    | true =>
      rw [hsf] at d6
      have HE := hide (rec_end HS.out HTU.out HDR.out (.inl hsf) 0)
      go_wp2
      refine leaves_cons (f := 25) (args := #[.pointer (some ⟨T, 3, none⟩)]) (by simp) (by simp [go_sem]) ?_
      refine (unlock_deferred Yba.muLib ⟨T, 3, none⟩ .returning _ d3 g3).mono ?_
      rintro e u' w'' ⟨rfl, rfl, rfl⟩
      exact ⟨_, results_none rfl _ _ _, rfl, HE.out⟩
    | false =>
      rw [hsf] at d6
      have hcb : s1.c < 2 ^ 64 := by have := HFI.out.sum; omega
      cases hl : fnd s1.es s1.c with
      | none =>
        have HE := hide (fun m => rec_end HS.out HTU.out HDR.out (.inr hl) m)
        have hlk : ∀ m, (Instr.lookup 71 (.map (some M)) (.int .u64 (s1.c : Int)) true).run Yba.prog (wr.drewN m) = .ok (.tuple #[.bool false, .bool false]) (wr.drewN m) := fun m => by
          have := (HS.out.mp.outside ((Outside.refl [] wr).drewN m) (by simp)).look hcb
          rw [look_none hl] at this
          exact this
        clear hl
        go_wp2_with fail
        go_quiet (fail)
        go_wp2
        have d3' : (wr.drewN nq).cell? ⟨T, 3, none⟩ = some (.int .i32 1) := ((Outside.refl [] wr).drewN nq).cell d3 (by simp)
        have g3' : (wr.drewN nq).frozen? ⟨T, 3, none⟩ = false := (fz_eq' (((Outside.refl [] wr).drewN nq).block T hlr (by simp))).trans g3
        refine leaves_cons (f := 25) (args := #[.pointer (some ⟨T, 3, none⟩)]) (by simp) (by simp [go_sem]) ?_
        refine (unlock_deferred Yba.muLib ⟨T, 3, none⟩ .returning _ d3' g3').mono ?_
        rintro e u' w'' ⟨rfl, rfl, rfl⟩
        exact ⟨_, results_none rfl _ _ _, rfl, HE.out nq⟩
      | some j =>
        obtain ⟨b, hj, _⟩ := fnd_some hl
        have hlo := look_of HFI.out.k1 hj
        have HGO := hide (drain_go (R := R) (sd := sd) hsf hl hlo)
        have HCF := hide (HFI.out.count (R := R) (sd := sd) hj)
        have hlk : ∀ m, (Instr.lookup 71 (.map (some M)) (.int .u64 (s1.c : Int)) true).run Yba.prog (wr.drewN m) = .ok (.tuple #[.bool b, .bool true]) (wr.drewN m) := fun m => by
          have := (HS.out.mp.outside ((Outside.refl [] wr).drewN m) (by simp)).look hcb
          rw [hlo] at this
          exact this
        have HJ := hide hj
        clear hl hlo hj
        go_wp2_with fail
        go_quiet (fail)
        obtain ⟨w3, hrun3, hmb3, hout3⟩ := (HS.out.mp.outside ((Outside.refl [] wr).drewN (nq + 1)) (by simp)).del HJ.out 0
        have hs3 := (HS.out.outside ((Outside.refl [] wr).drewN (nq + 1)) (by simp) (by simp) (by simp) (by simp)).map hmb3 hout3
        have ht3 := (HTU.out.trans (Turn.of_out ((Outside.refl [T, M, LG] wr).drewN (nq + 1)) ao1 cap1)).trans (Turn.of_out (hout3.mono (T := [T, M, LG]) (by simp)) ao1 cap1)
        have hsum := HFI.out.sum
        have hlg := HFI.out.lgl
        have HCN := hide (count_any T LG sd R s1.c M s1.t s1.f b ao1 cap1 s1.lg w3 hs3.ob hs3.lv (by omega) (by omega) hsd hR HFI.out.t10 hs3.t_own hs3.t_ne)
        have HS3 := hide hs3
        have HT3 := hide ht3
        clear hmb3 hout3 hs3 ht3 hsum hlg
        go_wp2
        go_region
        go_wp2_with (go_at_call 26; refine (unhide HCN).mono ?_; rintro e w' ⟨rfl, hy⟩; have HZ := hide hy; clear hy)
        go_roundw
        case rel =>
          obtain ⟨ao', cap', k1, k2⟩ := HS3.out.counted HZ.out
          exact ⟨_, ao', cap', k1, HCF.out, HGO.out ▸ HDR.out, HT3.out.trans k2⟩
        case measure =>
          obtain ⟨ao', cap', k1, k2⟩ := HS3.out.counted HZ.out
          have e1 := mLen_eq k1.mp
          have e2 := mLen_eq HS.out.mp
          have hjl := (List.getElem?_eq_some_iff.1 HJ.out).1
          rw [e1, e2]
          show (s1.es.eraseIdx j).length < s1.es.length
          rw [List.length_eraseIdx_of_lt hjl]
          omega

end Go.Proofs.Ybulkduge
