/-
  THE WALK OF 'inArrivalOrder' (40) (law C).
-/
import Derived.Test.YbulkdukmOrder
namespace Go.Proofs.Ybulkdukm
open Go.RowKit
set_option linter.unusedVariables false

theorem run_heads (b i : Nat) (hi : i ≤ 9) (W : World) : (Instr.sliceAt 153 (.pointer (some ⟨b, 0, none⟩)) none (some (.int .i64 (i : Int))) none).run Yba.prog W = .ok (.slice (some ⟨b, 0, none⟩) i 9) W := by
  have ea : (⟨b, 0, none⟩ : Addr).add 0 = ⟨b, 0, none⟩ := by simp [Addr.add]
  simp [Instr.sliceAt, run_underlying Yba.underlying153, Instr.sureAddr, Instr.sliceBounds, Instr.sliceBound, asIntOf, ea, hi, Yba.sizeOf46]

/-- How many pointers the variable at GB has. -/
def gLen (GB : Nat) (w : World) : Nat := match w.cell? ⟨GB, 0, none⟩ with
  | some (.slice _ n _) => n
  | _ => 0
theorem gLen_eq {w : World} {GB : Nat} {ao : Option Addr} {cap : Nat} {gs : List Nat} (h : LV w GB ao cap gs) : gLen GB w = gs.length := by
  have : w.cell? ⟨GB, 0, none⟩ = some (.slice ao gs.length cap) := by rw [cell_of_row w GB 0 _ 78 (0, 0) h.1]; rfl
  simp [gLen, this]

/-- What the outer loop's head knows: at 'cur', with t waiters handed over. -/
structure Ord (w0 w : World) (GB H n K : Nat) (blk : Nat → Nat) (p : Nat → Nat → Bool) (gp : Nat → Bool) (limit : Nat) (gs : List Nat) (ao0 : Option Addr) (cap0 : Nat) (cur : Nat) (ao : Option Addr) (cap : Nat) : Prop where
  hd : w.heap[H]? = some (.cells (hdc blk p n K cur).toArray 153 (0, 0))
  lv : LV w GB ao cap (gs ++ (idx gp 0 cur).map blk)
  tn : Turn [GB] w0 w ao0 cap0 ao cap
  go : ∀ s, 1 ≤ s → s ≤ (idx gp 0 cur).length → more n limit (gs.length + s) = true
  le : cur ≤ n

/-- What is left behind the call. -/
def Ended (w0 w : World) (GB n : Nat) (blk : Nat → Nat) (gp : Nat → Bool) (limit : Nat) (gs : List Nat) (ao0 : Option Addr) (cap0 : Nat) (r : Bool) : Prop :=
  ∃ t ao cap, t ≤ (idx gp 0 n).length ∧ LV w GB ao cap (gs ++ ((idx gp 0 n).take t).map blk) ∧ Turn [GB] w0 w ao0 cap0 ao cap ∧ (∀ s, 1 ≤ s → s < t → more n limit (gs.length + s) = true) ∧
    ((r = true ∧ t = (idx gp 0 n).length ∧ (1 ≤ t → more n limit (gs.length + t) = true)) ∨ (r = false ∧ 1 ≤ t ∧ more n limit (gs.length + t) = false))

theorem idx_len (p : Nat → Bool) (lo hi : Nat) : (idx p lo hi).length ≤ hi - lo := by
  unfold idx
  exact Nat.le_trans (List.length_filter_le _ _) (by simp)
theorem idx_upto {gp : Nat → Bool} {cur n : Nat} (h : nx gp cur n = none) (hc : cur ≤ n) : idx gp 0 n = idx gp 0 cur := by
  have e : List.range' 0 n = List.range' 0 cur ++ List.range' cur (n - cur) := by
    have a := @List.range'_append_1 0 cur (n - cur)
    rw [Nat.zero_add, show cur + (n - cur) = n by omega] at a
    exact a.symm
  have k := idx_end h
  unfold idx at k ⊢
  rw [Nat.sub_zero, Nat.sub_zero, e, List.filter_append, k, List.append_nil]
theorem ord_end {w0 w wx : World} {GB H n K : Nat} {blk : Nat → Nat} {p : Nat → Nat → Bool} {gp : Nat → Bool} {limit : Nat} {gs : List Nat} {ao0 : Option Addr} {cap0 : Nat} {cur : Nat} {ao : Option Addr} {cap : Nat} (h : Ord w0 w GB H n K blk p gp limit gs ao0 cap0 cur ao cap) (hn : nx gp cur n = none) (ho : Outside [] w wx) : Ended w0 wx GB n blk gp limit gs ao0 cap0 true := by
  have e := idx_upto hn h.le
  refine ⟨(idx gp 0 n).length, ao, cap, Nat.le_refl _, ?_, h.tn.trans (Turn.of_out (ho.mono (by simp)) ao cap), fun s h1 h2 => h.go s h1 (by rw [← e]; omega), .inl ⟨rfl, rfl, fun h1 => h.go _ h1 (by rw [e]; exact Nat.le_refl _)⟩⟩
  rw [List.take_length, e]
  exact h.lv.outside ho (by simp) (by simp)

theorem idx_split {gp : Nat → Bool} {cur n j : Nat} (h : nx gp cur n = some j) (hc : cur ≤ n) : idx gp 0 n = idx gp 0 cur ++ j :: idx gp (j + 1) n ∧ idx gp 0 (j + 1) = idx gp 0 cur ++ [j] := by
  obtain ⟨h1, h2, h3, h4⟩ := nx_some h
  have e : ∀ m, cur ≤ m → idx gp 0 m = idx gp 0 cur ++ idx gp cur m := fun m hm => by
    have a := @List.range'_append_1 0 cur (m - cur)
    rw [Nat.zero_add, show cur + (m - cur) = m by omega] at a
    unfold idx
    rw [Nat.sub_zero, Nat.sub_zero, ← a, List.filter_append]
  refine ⟨by rw [e n hc, idx_next h], ?_⟩
  have h' : nx gp cur (j + 1) = some j := nx_is h1 (by omega) h3 h4
  rw [e (j + 1) (by omega), idx_next h']
  congr 2
  unfold idx
  simp
theorem ord_stop {w0 w wx w2 : World} {GB H n K : Nat} {blk : Nat → Nat} {p : Nat → Nat → Bool} {gp : Nat → Bool} {limit : Nat} {gs : List Nat} {ao0 : Option Addr} {cap0 : Nat} {cur j : Nat} {ao : Option Addr} {cap : Nat} (h : Ord w0 w GB H n K blk p gp limit gs ao0 cap0 cur ao cap) (hn : nx gp cur n = some j) (ho : Outside [] w wx)
    (hz : ∃ ao' cap', LV w2 GB ao' cap' (gs ++ (idx gp 0 cur).map blk ++ [blk j]) ∧ Turn [GB] wx w2 ao cap ao' cap') (hm : more n limit (gs.length + ((idx gp 0 cur).length + 1)) = false) : Ended w0 w2 GB n blk gp limit gs ao0 cap0 false := by
  obtain ⟨ao', cap', z1, z2⟩ := hz
  obtain ⟨e, _⟩ := idx_split hn h.le
  refine ⟨(idx gp 0 cur).length + 1, ao', cap', by rw [e]; simp, ?_, (h.tn.trans (Turn.of_out (ho.mono (by simp)) ao cap)).trans z2, fun s h1 h2 => h.go s h1 (by omega), .inr ⟨rfl, by omega, hm⟩⟩
  have e2 : (idx gp 0 n).take ((idx gp 0 cur).length + 1) = idx gp 0 cur ++ [j] := by
    rw [e, List.take_append, List.take_of_length_le (by omega)]
    simp
  rw [e2, List.map_append, ← List.append_assoc]
  exact z1

theorem ord_cells {w0 w wx w2 : World} {GB H n K Q off : Nat} {blk : Nat → Nat} {p : Nat → Nat → Bool} {gp : Nat → Bool} {limit : Nat} {gs : List Nat} {ao0 : Option Addr} {cap0 : Nat} {cur j c : Nat} {ao ao2 : Option Addr} {cap cap2 : Nat} (h : Ord w0 w GB H n K blk p gp limit gs ao0 cap0 cur ao cap) (hg : Grp w Q off K n blk p) (ho : Outside [] w wx) (hz : Turn [GB] wx w2 ao cap ao2 cap2)
    (how : ∀ g ∈ ownB ao0 cap0, GB < g) (hB : ∀ j, j < n → blk j < GB) (hGB : GB < w0.heap.size) (hc : c < K) (hK : K ≤ 9) (hj : j < n ∧ p c j = true ∧ nx gp cur n = some j) (hcn : nx (p c) cur n = some j) :
    w2.cell? ⟨H, c, none⟩ = some (.pointer (some ⟨blk j, 0, none⟩)) ∧ w2.frozen? ⟨H, c, none⟩ = false ∧ w2.cell? ⟨blk j, 7, none⟩ = some (pt blk (nx (p c) (j + 1) n)) ∧ H < w2.heap.size := by
  have hown : ∀ g ∈ ownB ao cap, GB < g := fun g hg' => by
    rcases h.tn.own g hg' with k | k
    · exact how g k
    · omega
  have hH : H ∉ [GB] ++ ownB ao cap := by
    simp only [List.cons_append, List.nil_append, List.mem_cons, not_or]
    exact ⟨by rintro rfl; have h1 := h.lv.1; rw [h.hd] at h1; simp at h1, h.lv.2.not_own' h.hd (by decide)⟩
  have hh2 := hz.out.obj (ho.obj h.hd (by simp)) hH
  refine ⟨?_, frozen_of_row w2 H c _ 153 hh2, ?_, lt_of_block hh2⟩
  · rw [cell_of_row w2 H c _ 153 (0, 0) hh2]
    have hg' := hdc_get (blk := blk) (p := p) (n := n) (cur := cur) hK hc
    rw [hcn] at hg'
    simpa [pt] using hg'
  · have hb := hB j hj.1
    refine hz.out.cell (ho.cell (hg.nxt c j hc hj.1 hj.2.1) (by simp)) ?_
    simp only [List.cons_append, List.nil_append, List.mem_cons, not_or]
    exact ⟨by omega, fun hm => by have := hown _ hm; omega⟩
theorem ord_next {w0 w wx w2 : World} {GB H n K : Nat} {blk : Nat → Nat} {p : Nat → Nat → Bool} {gp : Nat → Bool} {limit : Nat} {gs : List Nat} {ao0 : Option Addr} {cap0 : Nat} {cur j c : Nat} {ao ao2 : Option Addr} {cap cap2 : Nat} (h : Ord w0 w GB H n K blk p gp limit gs ao0 cap0 cur ao cap) (ho : Outside [] w wx)
    (z1 : LV w2 GB ao2 cap2 (gs ++ (idx gp 0 cur).map blk ++ [blk j])) (z2 : Turn [GB] wx w2 ao cap ao2 cap2) (hm : more n limit (gs.length + ((idx gp 0 cur).length + 1)) = true) (hc : c < K) (hK : K ≤ 9) (hg : ∀ i, gp i = true ↔ ∃ c, c < K ∧ p c i = true) (hap : ∀ c c' i, p c i = true → p c' i = true → c = c')
    (hj : j < n ∧ p c j = true ∧ nx gp cur n = some j) (hGB : GB < w0.heap.size) (hHn : w0.heap.size ≤ H) :
    Ord w0 (w2.setCell ⟨H, c, none⟩ (pt blk (nx (p c) (j + 1) n))) GB H n K blk p gp limit gs ao0 cap0 (j + 1) ao2 cap2 ∧ gLen GB (w2.setCell ⟨H, c, none⟩ (pt blk (nx (p c) (j + 1) n))) = gs.length + (idx gp 0 cur).length + 1 := by
  obtain ⟨_, e⟩ := idx_split hj.2.2 h.le
  have hH : H ∉ [GB] ++ ownB ao cap := by
    simp only [List.cons_append, List.nil_append, List.mem_cons, not_or]
    exact ⟨by rintro rfl; have h1 := h.lv.1; rw [h.hd] at h1; simp at h1, h.lv.2.not_own' h.hd (by decide)⟩
  have hh2 := z2.out.obj (ho.obj h.hd (by simp)) hH
  have hHG : H ≠ GB := by rintro rfl; have h1 := h.lv.1; rw [h.hd] at h1; simp at h1
  have hlv : LV (w2.setCell ⟨H, c, none⟩ (pt blk (nx (p c) (j + 1) n))) GB ao2 cap2 (gs ++ (idx gp 0 (j + 1)).map blk) := by
    rw [e, List.map_append, ← List.append_assoc]
    refine z1.outside (S := [H]) ((Outside.refl _ w2).setCell H c (.inl (by simp)) _) (by simp; exact fun e => hHG e.symm) (fun g hg' => ?_)
    simp
    rintro rfl
    exact z1.2.not_own' hh2 (by decide) hg'
  refine ⟨⟨?_, hlv, ?_, ?_, by omega⟩, ?_⟩
  · rw [heap_setCell_same w2 H c _ 153 _ hh2, ← hdc_set (blk := blk) hK hc hg hap hj.2.2 hj.2.1]
    simp
  · have t1 := (h.tn.trans (Turn.of_out (ho.mono (by simp)) ao cap)).trans z2
    exact ⟨t1.out.setCell H c (.inr hHn) _, t1.own⟩
  · intro s h1 h2
    rw [e] at h2
    simp at h2
    by_cases hs : s ≤ (idx gp 0 cur).length
    · exact h.go s h1 hs
    · have : s = (idx gp 0 cur).length + 1 := by omega
      rw [this]
      exact hm
  · rw [gLen_eq hlv, e]
    simp
    omega

set_option maxRecDepth 100000 in
set_option maxHeartbeats 4000000 in
theorem order_any (Q off K n GB LB NB limit : Nat) (blk : Nat → Nat) (p : Nat → Nat → Bool) (gp : Nat → Bool) (gs : List Nat) (ao0 : Option Addr) (cap0 : Nat) (w : World) (h : Grp w Q off K n blk p) (hK : K ≤ 9) (hn : n ≤ 65536) (hl : limit ≤ 65537) (hgl : gs.length ≤ 65536)
    (hg : ∀ i, gp i = true ↔ ∃ c, c < K ∧ p c i = true) (hap : ∀ c c' i, p c i = true → p c' i = true → c = c')
    (hlv : LV w GB ao0 cap0 gs) (hlb : w.heap[LB]? = some (.cells #[.int .i64 (limit : Int)] 3 (0, 0))) (hnb : w.heap[NB]? = some (.cells #[.int .i64 (n : Int)] 3 (0, 0))) (hQ : Q < GB) (hB : ∀ j, j < n → blk j < GB) (hown : ∀ g ∈ ownB ao0 cap0, GB < g) :
    Calls Yba.prog 40 #[.slice (some ⟨Q, off, none⟩) K K, .func (.func 21) #[] #[.pointer (some ⟨GB, 0, none⟩), .pointer (some ⟨LB, 0, none⟩), .pointer (some ⟨NB, 0, none⟩)]] w fun e w' => ∃ r, e = .returned (.bool r) ∧ Ended w w' GB n blk gp limit gs ao0 cap0 r := by
  have HG := hide h
  have HGP := hide hg
  have HAP := hide hap
  have HLV := hide hlv
  have HLB := hide hlb
  have HNB := hide hnb
  have HB := hide hB
  have HOW := hide hown
  have hGB := lt_of_block hlv.1
  clear h hg hap hlv hlb hnb hB hown
  go_enter Yba.func40, Yba.ntmps40
  go_wp2
  go_loopw [13] (fun iv wr => ∃ i : Nat, i ≤ K ∧ iv = .int .i64 (i : Int) ∧ wr.heap[w.heap.size]? = some (.cells (hd0 blk p n i).toArray 153 (0, 0)) ∧ Outside [] w wr) (fun iv _ => K - (intOf iv).toNat)
  case atStart => exact ⟨0, Nat.zero_le _, rfl, by rw [heap_alloc_new]; rfl, (Outside.refl [] w).alloc _⟩
  case round =>
    obtain ⟨i, hi, rfl, hh, ho⟩ := hrel
    have HH := hide hh
    have HO := hide ho
    have hHl := lt_of_block hh
    have hGr : Grp wr Q off K n blk p := HG.out.below (ho.below (Below.refl GB w) (by omega) (by simp)) hQ HB.out
    by_cases hlt : i < K
    · have q0 := hGr.fst i hlt
      obtain ⟨o1, q1⟩ := hGr.snd i hlt
      have hQl : Q < wr.heap.size := World.block_lt_of_cell? wr _ q0
      have hc : wr.cell? ⟨w.heap.size, i, none⟩ = some (.pointer none) := by
        rw [cell_of_row wr _ i _ 153 (0, 0) hh]
        have : i < 9 := by omega
        simp [hd0, this]
      have hf := frozen_of_row wr w.heap.size i _ 153 hh
      have hne : Q ≠ w.heap.size := by omega
      clear hh ho hGr
      have HS := hide (hd0_set (blk := blk) (p := p) (n := n) (i := i) (by omega))
      generalize hv : pt blk (nx (p i) 0 n) = v at *
      unfold pt at hv q1
      subst hv
      go_wp2
      go_roundw
      case rel =>
        refine ⟨i + 1, by omega, by go_num, ?_, (HO.out.setCell w.heap.size i (.inr (Nat.le_refl _)) _).alloc _⟩
        refine ((Outside.refl [] _).alloc _).obj ?_ (by simp)
        rw [heap_setCell_same wr w.heap.size i _ 153 _ HH.out, ← HS.out]
        simp
      case measure => simp [intOf]; omega
    · obtain rfl : i = K := by omega
      have HS0 : Hid (Ord w wr GB w.heap.size n i blk p gp limit gs ao0 cap0 0 ao0 cap0) :=
        ⟨hh, by simpa [idx] using HLV.out.outside ho (by simp) (by simp), Turn.of_out (ho.mono (by simp)) ao0 cap0, fun s h1 h2 => by simp [idx] at h2; omega, Nat.zero_le _⟩
      clear hh ho hGr HH HO
      go_wp2
      go_loopw [8] (fun _ wx => ∃ (cur : Nat) (ao : Option Addr) (cap : Nat), Ord w wx GB w.heap.size n i blk p gp limit gs ao0 cap0 cur ao cap) (fun _ wx => gs.length + n + 1 - gLen GB wx)
      case atStart => exact ⟨0, ao0, cap0, HS0.out⟩
      case round =>
        clear HS0
        obtain ⟨cur, ao, cap, hord⟩ := hrel
        have HR := hide hord
        have hbel : Below GB w wr := hord.tn.out.below (Below.refl GB w) (by omega) (fun x hx => by
          rcases List.mem_append.1 hx with h1 | h1
          · simp at h1; omega
          · have := HOW.out x h1; omega)
        have HGr := hide (HG.out.below hbel hQ HB.out)
        have hHl := lt_of_block hord.hd
        have HHD := hide hord.hd
        clear hord hbel
        obtain ⟨wo, rfl⟩ : ∃ wo : World, wo = wr := ⟨_, rfl⟩
        have hsl := run_heads w.heap.size i hK
        go_wp2
        go_loopw [8, 27] (fun a iv wx => ∃ (k : Nat) (a' : Int), k ≤ i ∧ iv = .int .i64 (k : Int) ∧ a = .int .i64 a' ∧ Best p n cur k a' ∧ Outside [] wo wx) (fun _ iv _ => i - (intOf iv).toNat)
        case atStart => exact ⟨0, -1, Nat.zero_le _, rfl, rfl, .inl ⟨rfl, fun c hc => absurd hc (Nat.not_lt_zero _)⟩, Outside.refl _ _⟩
        case round =>
          obtain ⟨k, a', hk, rfl, rfl, hbest, ho⟩ := hrel
          have HBE := hide hbest
          have HO := hide ho
          have hcell : ∀ c, c < i → wr.cell? ⟨w.heap.size, c, none⟩ = some (pt blk (nx (p c) cur n)) := fun c hc => by
            have h1 := ho.obj HHD.out (by simp)
            rw [cell_of_row wr _ c _ 153 (0, 0) h1]
            simpa using hdc_get (blk := blk) (p := p) (n := n) (cur := cur) hK hc
          have HCE := hide hcell
          have hHr : w.heap.size < wr.heap.size := Nat.lt_of_lt_of_le hHl ho.size
          clear hbest ho hcell
          by_cases hki : k < i
          · have x0 := HCE.out k hki
            cases hnx : nx (p k) cur n with
            | none =>
              rw [hnx] at x0
              have x1 : wr.cell? ⟨w.heap.size, k, none⟩ = some (.pointer none) := x0
              have HN := hide (HBE.out.no hnx)
              clear x0 hnx
              go_wp2_with fail
              go_quiet (fail)
              go_wp2
              go_roundw
              case rel => exact ⟨k + 1, a', by omega, by go_num, rfl, HN.out, HO.out.drewN nq⟩
              case measure => simp [intOf]; omega
            | some j =>
              rw [hnx] at x0
              have x1 : wr.cell? ⟨w.heap.size, k, none⟩ = some (.pointer (some ⟨blk j, 0, none⟩)) := x0
              obtain ⟨n1, n2, n3, n4⟩ := nx_some hnx
              have x2 := HO.out.cell (HGr.out.seq k j hki n2 n3) (by simp)
              have hcase : a' = -1 ∨ ∃ c j' : Nat, a' = (c : Int) ∧ c < k ∧ nx (p c) cur n = some j' := by
                rcases HBE.out with ⟨h1, _⟩ | ⟨c, j', h1, h2, h3, _⟩
                · exact .inl h1
                · exact .inr ⟨c, j', h1, h2, h3⟩
              rcases hcase with rfl | ⟨c, j', rfl, hck, hcn⟩
              · have HN := hide (HBE.out.first hnx)
                clear x0 hnx n3 n4
                go_wp2_with fail
                go_quiet (fail)
                go_wp2
                go_roundw
                case rel => exact ⟨k + 1, _, by omega, by go_num, rfl, HN.out, HO.out.drewN nq⟩
                case measure => simp [intOf]; omega
              · have y0 := HCE.out c (by omega)
                rw [hcn] at y0
                have y1 : wr.cell? ⟨w.heap.size, c, none⟩ = some (.pointer (some ⟨blk j', 0, none⟩)) := y0
                obtain ⟨m1, m2, m3, m4⟩ := nx_some hcn
                have y2 := HO.out.cell (HGr.out.seq c j' (by omega) m2 m3) (by simp)
                have hd1 : decide ((c : Int) < 0) = false := decide_eq_false (by omega)
                by_cases hjj : j < j'
                · have HN := hide (HBE.out.less hcn hnx hjj)
                  clear x0 y0 hnx hcn n3 n4 m3 m4
                  go_wp2_with fail
                  go_quiet (fail)
                  go_wp2
                  go_roundw
                  case rel => exact ⟨k + 1, _, by omega, by go_num, rfl, HN.out, HO.out.drewN nq⟩
                  case measure => simp [intOf]; omega
                · have HN := hide (HBE.out.more hcn hnx hjj)
                  clear x0 y0 hnx hcn n3 n4 m3 m4
                  go_wp2_with fail
                  go_quiet (fail)
                  go_wp2
                  go_roundw
                  case rel => exact ⟨k + 1, _, by omega, by go_num, rfl, HN.out, HO.out.drewN nq⟩
                  case measure => simp [intOf]; omega
          · obtain rfl : k = i := by omega
            have hcase : a' = -1 ∨ ∃ c j' : Nat, a' = (c : Int) ∧ c < k ∧ nx (p c) cur n = some j' := by
              rcases HBE.out with ⟨h1, _⟩ | ⟨c, j', h1, h2, h3, _⟩
              · exact .inl h1
              · exact .inr ⟨c, j', h1, h2, h3⟩
            rcases hcase with rfl | ⟨c, j, rfl, hck, hcn⟩
            · have HE := hide (ord_end HR.out (HBE.out.all_none HGP.out) HO.out)
              clear hsl
              go_wp2
              go_ret
              exact ⟨true, rfl, HE.out⟩
            · have x0 := HCE.out c hck
              rw [hcn] at x0
              have x1 : wr.cell? ⟨w.heap.size, c, none⟩ = some (.pointer (some ⟨blk j, 0, none⟩)) := x0
              have hone := HBE.out.the_one hcn HGP.out
              obtain ⟨m1, m2, m3, m4⟩ := nx_some hcn
              have hlv : LV wr GB ao cap (gs ++ (idx gp 0 cur).map blk) := HR.out.lv.outside HO.out (by simp) (by simp)
              have hb1 : LB ∉ [GB] ++ ownB ao0 cap0 := by
                simp only [List.cons_append, List.nil_append, List.mem_cons, not_or]
                exact ⟨by rintro rfl; have h1 := HLV.out.1; rw [HLB.out] at h1; simp at h1, HLV.out.2.not_own' HLB.out (by decide)⟩
              have hb2 : NB ∉ [GB] ++ ownB ao0 cap0 := by
                simp only [List.cons_append, List.nil_append, List.mem_cons, not_or]
                exact ⟨by rintro rfl; have h1 := HLV.out.1; rw [HNB.out] at h1; simp at h1, HLV.out.2.not_own' HNB.out (by decide)⟩
              have hlb := HO.out.obj (HR.out.tn.out.obj HLB.out hb1) (by simp)
              have hnb := HO.out.obj (HR.out.tn.out.obj HNB.out hb2) (by simp)
              have hlen := idx_len gp 0 cur
              have hle := HR.out.le
              have hy := yield_any GB LB NB n limit (blk j) ao cap (gs ++ (idx gp 0 cur).map blk) wr hlv hlb hnb (by simp; omega) (by omega) (by omega)
              have hel : (gs ++ (idx gp 0 cur).map blk).length + 1 = gs.length + ((idx gp 0 cur).length + 1) := by simp; omega
              rw [hel] at hy
              have HCN := hide hcn
              have HJ := hide (show j < n ∧ p c j = true ∧ nx gp cur n = some j from ⟨m2, m3, hone⟩)
              cases hmo : more n limit (gs.length + ((idx gp 0 cur).length + 1)) with
              | false =>
                rw [hmo] at hy
                have HY := hide hy
                have HMO := hide hmo
                clear hy x0 hone m3 m4 hcn hlv hlb hnb hb1 hb2 hel hlen hmo hsl
                go_wp2_with (go_at_call 21; go_must (refine (unhide HY).mono ?_; rintro e w2 ⟨rfl, hz⟩; have HZ := hide hz; clear hz))
                go_ret
                exact ⟨false, rfl, ord_stop HR.out HJ.out.2.2 HO.out HZ.out HMO.out⟩
              | true =>
                rw [hmo] at hy
                have HY := hide hy
                have HMO := hide hmo
                clear hy x0 hone m3 m4 hcn hlv hlb hnb hb1 hb2 hel hlen hmo hsl
                go_wp2_with (go_at_call 21; go_must (refine (unhide HY).mono ?_; rintro e w2 ⟨rfl, ao2, cap2, z1, z2⟩; obtain ⟨v1, v2, v3, v4⟩ := ord_cells HR.out HGr.out HO.out z2 HOW.out HB.out hGB hck hK HJ.out HCN.out; have HN := hide (ord_next HR.out HO.out z1 z2 HMO.out hck hK HGP.out HAP.out HJ.out hGB (Nat.le_refl _)); unfold pt at v3; clear z1 z2))
                go_roundw
                case rel => exact ⟨j + 1, ao2, cap2, HN.out.1⟩
                case measure =>
                  have e1 := HN.out.2
                  unfold pt at e1
                  rw [e1, gLen_eq HR.out.lv]
                  have := idx_len gp 0 cur
                  simp
                  omega

end Go.Proofs.Ybulkdukm
