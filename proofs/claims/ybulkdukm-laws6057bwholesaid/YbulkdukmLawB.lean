/-
  THE LAW, WALKED: ITS PARTS JOINED (law B).
-/
import Derived.Test.YbulkdukmBP1
import Derived.Test.YbulkdukmBP2
import Derived.Test.YbulkdukmBP3
import Derived.Test.YbulkdukmBP4
import Derived.Test.YbulkdukmBP5
import Derived.Test.YbulkdukmBP6
import Derived.Test.YbulkdukmBP7
import Derived.Test.YbulkdukmBP8
import Derived.Test.YbulkdukmBP9
import Derived.Test.YbulkdukmBP10
namespace Go.Proofs.Ybulkdukm
open Go.RowKit
set_option linter.unusedVariables false

theorem after_add : ∀ (n m : Nat) (c : Code), after m (after n c) = after (n + m) c
  | 0, m, c => by rw [Nat.zero_add]; rfl
  | n + 1, m, c => by
    cases c with
    | seq a b =>
      show after m (after n b) = _
      rw [after_add n m b, show n + 1 + m = (n + m) + 1 by omega]
      rfl
    | _ =>
      rw [show n + 1 + m = (n + m) + 1 by omega]
      cases m <;> rfl
theorem cut_next (n m : Nat) : cutAt m (after n b4) (after (n + m) b4) = after n b4 := by
  rw [← after_add n m b4]
  exact cutAt_after m _

set_option maxRecDepth 100000 in
set_option maxHeartbeats 4000000 in
theorem lawB_long (a0 : Option Addr) (len0 cap0 : Nat) (a1 : Option Addr) (len1 cap1 k pick : Nat) (q : Int) (w : World) (hl : len0 ≤ 9223372036854775807) (h : 4096 < len0) :
    Calls Yba.prog 4 #[.slice a0 len0 cap0, .slice a1 len1 cap1, .int .u8 (k : Int), .int .u64 (pick : Int), .int .i64 q] w fun e w' => e = .returned (.bool true) ∧ Outside [] w w' := by
  go_enter Yba.func4, Yba.ntmps4
  go_wp2
  go_ret
  exact ⟨rfl, Outside.refl _ _⟩

set_option maxRecDepth 100000 in
set_option maxHeartbeats 4000000 in
theorem lawB_short (a0 : Option Addr) (len0 cap0 : Nat) (a1 : Option Addr) (len1 cap1 k pick : Nat) (q : Int) (w : World) (sl ids : Nat → Nat) (hl0 : len0 ≤ 4096) (hl1 : len1 ≤ 9223372036854775807) (hk : k < 256) (hpick : pick < 2 ^ 64) (hq : -9223372036854775808 ≤ q ∧ q ≤ 9223372036854775807)
    (hs0 : Src1 w .u8 a0 len0 sl) (hs1 : Src1 w .u64 a1 len1 ids) (hsl : ∀ x, sl x < 256) (hids : ∀ x, ids x < 2 ^ 64) :
    Calls Yba.prog 4 #[.slice a0 len0 cap0, .slice a1 len1 cap1, .int .u8 (k : Int), .int .u64 (pick : Int), .int .i64 q] w fun e w' => e = .returned (.bool true) ∧ Outside [] w w' := by
  obtain ⟨nk, hnk⟩ : ∃ nk, nk = k % 4 + 1 := ⟨_, rfl⟩
  obtain ⟨n, hn⟩ : ∃ n, n = len0 + 1 := ⟨_, rfl⟩
  have hk4 : k % 4 < 4 := Nat.mod_lt _ (by decide)
  obtain ⟨nd, hnd0, hnd, hndk⟩ : ∃ nd : Nat → Nat, nd 0 = 0 ∧ (∀ x, x < len0 → nd (x + 1) = sl x % nk) ∧ ∀ x, nd x < nk :=
    ⟨fun x => match x with | 0 => 0 | x + 1 => sl x % nk, rfl, fun x _ => rfl, fun x => by
      cases x with
      | zero => show 0 < nk; omega
      | succ x => exact Nat.mod_lt _ (by omega)⟩
  obtain ⟨id, hid, hid64⟩ : ∃ id : Nat → Nat, (∀ x, id x = if x < len1 then ids x else x) ∧ ∀ x, x < n → id x < 2 ^ 64 :=
    ⟨fun x => if x < len1 then ids x else x, fun x => rfl, fun x hx => by
      dsimp only
      split
      · exact hids x
      · omega⟩
  go_enter Yba.func4, Yba.ntmps4
  show Code.wp Yba.prog (after 0 b4) _ _ _
  rw [← cut_next 0 9]
  refine p1 (after 9 b4) _ w q (pick : Int) k n nk len0 len1 cap0 cap1 a0 a1 hk hnk hn hl0 ?_
  intros
  rename_i w1 GB ND WS NO hWS hNO hEx
  obtain ⟨L, K, T, s, e1, e2, e3, e4, hL2⟩ := hEx nd id
  subst e1 e2 e3 e4
  rw [← cut_next 9 1]
  refine p2 (after 10 b4) _ w w1 L q (pick : Int) n len0 len1 cap0 cap1 ND WS NO a0 a1 sl ids K T s hL2 (by omega) hn hl0 hl1 hWS hNO hs0 hs1 hnd0 hnd hndk hsl hid hid64 ?_
  intros
  rename_i w2 K2 T2 s2 hL3
  have hlo := hL3.lo
  have ho2 := hL3.out
  have hS3 := hL3.s3
  have hM1 : 0 < (L.at n K2 T2).nk ∧ (L.at n K2 T2).nk ≤ 4 := by show 0 < L.nk ∧ L.nk ≤ 4; omega
  have hM2 : 0 < (L.at n K2 T2).n ∧ (L.at n K2 T2).n ≤ 4097 := by show 0 < n ∧ n ≤ 4097; omega
  have hM3 : ∀ x, (L.at n K2 T2).nd x < (L.at n K2 T2).nk := hndk
  have hM4 : ∀ x, x < (L.at n K2 T2).n → (L.at n K2 T2).id x < 2 ^ 64 := hid64
  rw [← cut_next 10 4]
  refine p3 (after 14 b4) _ w2 (L.at n K2 T2) q (pick : Int) ND WS NO s2 hS3 hM1 hM2.2 hM3 ?_
  clear hL2 hL3 hnd0 hnd hndk hid hid64 hs0 hs1 hsl hids hEx hWS hNO
  generalize L.at n K2 T2 = M at hlo hS3 hM1 hM2 hM3 hM4 ⊢
  intros
  rename_i w3 WB a c aN cN ho3 hkb
  rw [← cut_next 14 9]
  refine p4 (after 23 b4) _ w3 M q pick ND WS NO WB s2 a c aN cN (hS3.outside ho3) hkb hM1 hM2 hM3 hpick ?_
  intros
  rename_i w4 t lW lN aE aF cE cF gone htn ho4 he1 he2 he3 he4
  rw [← cut_next 23 2]
  refine p5 (after 25 b4) _ w4 M q ND WS NO s2 (hS3.outside (ho3.trans ho4)) hM2 hM4 ?_
  intros
  rename_i w5 ho5
  rw [← cut_next 25 5]
  refine p6 (after 30 b4) _ w5 M q ND WS NO WB t lW lN s2 a c aN cN aE aF cE cF (hS3.outside ((ho3.trans ho4).trans ho5)) (hkb.outside (ho4.trans ho5)) hM2 hM3 hM4 hq htn (he1.outside ho5 (by simp)) he2 (he3.outside ho5 (by simp)) he4 ?_
  intros
  rename_i w6 hlo6 hHe hS5
  have ho6 : Outside [] w w6 := hlo6 w hlo (((ho2.trans ho3).trans ho4).trans ho5)
  rw [← cut_next 30 1]
  refine p7 (after 31 b4) _ w6 M q ND WS WB t _ _ lW lN s2 (stopS M s2 t) _ a c _ aN cN aE aF cE cF hS5 hHe hM1 hM2 (hM3 t) ?_
  intros
  rename_i w7 ho7
  rw [← cut_next 31 4]
  refine p8 (after 35 b4) _ w7 M q ND WS WB t _ _ lW lN s2 (stopS M s2 t) _ a c _ aN cN aE aF cE cF gone (hS5.outside ho7) hHe hM1 hM2 htn (hM3 t) ?_
  intros
  rename_i w8 ho8
  have hdc := dc_pos M.id hM2.1
  have hdc1 := dc_le M.id M.n
  have hsz := hHe.sz
  rw [← cut_next 35 2]
  refine p9 (after 37 b4) _ w8 M q ND WS WB t _ _ lW lN (dc M.id M.n) s2 (stopS M s2 t) _ a c _ aN cN aE aF cE cF (hS5.outside (ho7.trans ho8)) hHe hM2 htn (by omega) (by omega) ?_
  intros
  rename_i w9 ho9
  refine p10 _ w9 M q ND WS WB t _ _ lW lN s2 (stopS M s2 t) _ a c _ aN cN aE aF cE cF (hS5.outside ((ho7.trans ho8).trans ho9)) hHe hM2 htn hM4 ?_
  intro w10 ho10
  exact ⟨rfl, (((ho6.trans ho7).trans ho8).trans ho9).trans ho10⟩

end Go.Proofs.Ybulkdukm
