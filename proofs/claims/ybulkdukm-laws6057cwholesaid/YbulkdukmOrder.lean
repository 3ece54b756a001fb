/-
  THE WALK OF 'inArrivalOrder' (40) (law C).
-/
import Derived.Test.YbulkdukmGot
namespace Go.Proofs.Ybulkdukm
open Go.RowKit
set_option linter.unusedVariables false

/-- A pointer to the j-th waiter, or nil. -/
def pt (blk : Nat → Nat) (o : Option Nat) : Value := .pointer (o.map fun j => ⟨blk j, 0, none⟩)

/-- K lists of waiters (at ⟨Q, off⟩), chain c being the places with p c, in order. -/
structure Grp (w : World) (Q off K n : Nat) (blk : Nat → Nat) (p : Nat → Nat → Bool) : Prop where
  fst : ∀ c, c < K → w.cell? ⟨Q, off + c * 2, none⟩ = some (pt blk (nx (p c) 0 n))
  snd : ∀ c, c < K → ∃ o : Option Nat, w.cell? ⟨Q, off + c * 2 + 1, none⟩ = some (pt blk o)
  seq : ∀ c j, c < K → j < n → p c j = true → w.cell? ⟨blk j, 5, none⟩ = some (.int .u64 ((j : Int) + 1))
  nxt : ∀ c j, c < K → j < n → p c j = true → w.cell? ⟨blk j, 7, none⟩ = some (pt blk (nx (p c) (j + 1) n))

theorem Grp.below {w w' : World} {Q off K n G : Nat} {blk : Nat → Nat} {p : Nat → Nat → Bool} (h : Grp w Q off K n blk p) (hb : Below G w w') (hQ : Q < G) (hB : ∀ j, j < n → blk j < G) : Grp w' Q off K n blk p :=
  ⟨fun c hc => (hb.cell (p := ⟨Q, off + c * 2, none⟩) hQ).trans (h.fst c hc), fun c hc => by obtain ⟨o, ho⟩ := h.snd c hc; exact ⟨o, (hb.cell (p := ⟨Q, off + c * 2 + 1, none⟩) hQ).trans ho⟩,
    fun c j hc hj hp => (hb.cell (p := ⟨blk j, 5, none⟩) (hB j hj)).trans (h.seq c j hc hj hp), fun c j hc hj hp => (hb.cell (p := ⟨blk j, 7, none⟩) (hB j hj)).trans (h.nxt c j hc hj hp)⟩

/-- The nine heads when the first i are laid. -/
def hd0 (blk : Nat → Nat) (p : Nat → Nat → Bool) (n i : Nat) : List Value := (List.range 9).map fun c => if c < i then pt blk (nx (p c) 0 n) else .pointer none
/-- The nine heads at 'cur'. -/
def hdc (blk : Nat → Nat) (p : Nat → Nat → Bool) (n K cur : Nat) : List Value := (List.range 9).map fun c => if c < K then pt blk (nx (p c) cur n) else .pointer none

theorem hd0_set {blk : Nat → Nat} {p : Nat → Nat → Bool} {n i : Nat} (hi : i < 9) : (hd0 blk p n i).set i (pt blk (nx (p i) 0 n)) = hd0 blk p n (i + 1) := by
  apply List.ext_getElem?
  intro c
  unfold hd0
  rw [List.getElem?_set, List.getElem?_map, List.getElem?_map]
  by_cases hc : i = c
  · subst hc
    simp [hi]
  · rw [if_neg hc]
    by_cases h9 : c < 9
    · simp only [List.getElem?_range h9, Option.map_some]
      congr 1
      by_cases h1 : c < i
      · rw [if_pos h1, if_pos (by omega)]
      · rw [if_neg h1, if_neg (by omega)]
    · rw [List.getElem?_eq_none (by simp; omega)]
      rfl
theorem hdc_get {blk : Nat → Nat} {p : Nat → Nat → Bool} {n K cur c : Nat} (hK : K ≤ 9) (hc : c < K) : (hdc blk p n K cur)[c]? = some (pt blk (nx (p c) cur n)) := by
  unfold hdc
  rw [List.getElem?_map, List.getElem?_range (by omega)]
  simp [hc]

/-- The step from one head to the next. -/
theorem hdc_set {blk : Nat → Nat} {p : Nat → Nat → Bool} {n K cur c j : Nat} {gp : Nat → Bool} (hK : K ≤ 9) (hc : c < K) (hg : ∀ i, gp i = true ↔ ∃ c, c < K ∧ p c i = true) (hap : ∀ c c' i, p c i = true → p c' i = true → c = c')
    (hj : nx gp cur n = some j) (hp : p c j = true) : (hdc blk p n K cur).set c (pt blk (nx (p c) (j + 1) n)) = hdc blk p n K (j + 1) := by
  obtain ⟨h1, h2, h3, h4⟩ := nx_some hj
  apply List.ext_getElem?
  intro i
  unfold hdc
  rw [List.getElem?_set, List.getElem?_map, List.getElem?_map]
  by_cases hi : c = i
  · subst hi
    have : c < 9 := by omega
    simp [hc, this]
  · rw [if_neg hi]
    by_cases h9 : i < 9
    · simp only [List.getElem?_range h9, Option.map_some]
      congr 1
      by_cases hiK : i < K
      · rw [if_pos hiK, if_pos hiK]
        congr 1
        refine nx_skip (by omega) fun x hx1 hx2 => ?_
        cases hpx : p i x with
        | false => rfl
        | true =>
          by_cases hxj : x = j
          · subst hxj
            exact absurd (hap c i x hp hpx) hi
          · have := h4 x hx1 (by omega)
            rw [(hg x).2 ⟨i, hiK, hpx⟩] at this
            cases this
      · rw [if_neg hiK, if_neg hiK]
    · rw [List.getElem?_eq_none (by simp; omega)]
      rfl

/-- What the inner loop knows behind i lists. -/
def Best (p : Nat → Nat → Bool) (n cur i : Nat) (a : Int) : Prop :=
  (a = -1 ∧ ∀ c : Nat, c < i → nx (p c) cur n = none) ∨ ∃ c j : Nat, a = (c : Int) ∧ c < i ∧ nx (p c) cur n = some j ∧ ∀ c' j', c' < i → nx (p c') cur n = some j' → j ≤ j'

theorem Best.no {p : Nat → Nat → Bool} {n cur i : Nat} {a : Int} (h : Best p n cur i a) (hn : nx (p i) cur n = none) : Best p n cur (i + 1) a := by
  rcases h with ⟨h1, h2⟩ | ⟨c, j, h1, h2, h3, h4⟩
  · refine .inl ⟨h1, fun c hc => ?_⟩
    by_cases e : c = i
    · subst e; exact hn
    · exact h2 c (by omega)
  · refine .inr ⟨c, j, h1, by omega, h3, fun c' j' hc' hj' => ?_⟩
    by_cases e : c' = i
    · subst e; rw [hn] at hj'; cases hj'
    · exact h4 c' j' (by omega) hj'
theorem Best.first {p : Nat → Nat → Bool} {n cur i j : Nat} (h : Best p n cur i (-1)) (hn : nx (p i) cur n = some j) : Best p n cur (i + 1) (i : Int) := by
  rcases h with ⟨h1, h2⟩ | ⟨c, j, h1, h2, h3, h4⟩
  · refine .inr ⟨i, j, rfl, by omega, hn, fun c' j' hc' hj' => ?_⟩
    by_cases e : c' = i
    · subst e; rw [hn] at hj'; cases hj'; exact Nat.le_refl _
    · rw [h2 c' (by omega)] at hj'; cases hj'
  · omega
theorem Best.less {p : Nat → Nat → Bool} {n cur i c j j' : Nat} (h : Best p n cur i (c : Int)) (hc : nx (p c) cur n = some j') (hn : nx (p i) cur n = some j) (hl : j < j') : Best p n cur (i + 1) (i : Int) := by
  rcases h with ⟨h1, h2⟩ | ⟨c1, j1, h1, h2, h3, h4⟩
  · omega
  · obtain rfl : c = c1 := by omega
    rw [hc] at h3
    cases h3
    refine .inr ⟨i, j, rfl, by omega, hn, fun c' j2 hc' hj' => ?_⟩
    by_cases e : c' = i
    · subst e; rw [hn] at hj'; cases hj'; exact Nat.le_refl _
    · have := h4 c' j2 (by omega) hj'; omega
theorem Best.more {p : Nat → Nat → Bool} {n cur i c j j' : Nat} (h : Best p n cur i (c : Int)) (hc : nx (p c) cur n = some j') (hn : nx (p i) cur n = some j) (hl : ¬ j < j') : Best p n cur (i + 1) (c : Int) := by
  rcases h with ⟨h1, h2⟩ | ⟨c1, j1, h1, h2, h3, h4⟩
  · omega
  · obtain rfl : c = c1 := by omega
    rw [hc] at h3
    cases h3
    refine .inr ⟨c, j', rfl, by omega, hc, fun c' j2 hc' hj' => ?_⟩
    by_cases e : c' = i
    · subst e; rw [hn] at hj'; cases hj'; omega
    · exact h4 c' j2 (by omega) hj'
theorem Best.all_none {p : Nat → Nat → Bool} {n cur K : Nat} {gp : Nat → Bool} (h : Best p n cur K (-1)) (hg : ∀ i, gp i = true ↔ ∃ c, c < K ∧ p c i = true) : nx gp cur n = none := by
  rcases h with ⟨h1, h2⟩ | ⟨c, j, h1, h2, h3, h4⟩
  · refine nx_isNone fun j hj1 hj2 => ?_
    cases hgj : gp j with
    | false => rfl
    | true =>
      obtain ⟨c, hc, hp⟩ := (hg j).1 hgj
      rw [nx_none (h2 c hc) j hj1 hj2] at hp
      cases hp
  · omega
theorem Best.the_one {p : Nat → Nat → Bool} {n cur K c j : Nat} {gp : Nat → Bool} (h : Best p n cur K (c : Int)) (hc : nx (p c) cur n = some j) (hg : ∀ i, gp i = true ↔ ∃ c, c < K ∧ p c i = true) : nx gp cur n = some j := by
  rcases h with ⟨h1, h2⟩ | ⟨c1, j1, h1, h2, h3, h4⟩
  · omega
  · obtain rfl : c = c1 := by omega
    rw [hc] at h3
    cases h3
    obtain ⟨k1, k2, k3, k4⟩ := nx_some hc
    refine nx_is k1 k2 ((hg j).2 ⟨c, h2, k3⟩) fun i hi1 hi2 => ?_
    cases hgi : gp i with
    | false => rfl
    | true =>
      obtain ⟨c', hc', hp'⟩ := (hg i).1 hgi
      rcases nx_spec (p c') cur n with ⟨_, k⟩ | ⟨j', e, m1, m2, m3, m4⟩
      · rw [k i hi1 (by omega)] at hp'; cases hp'
      · have := h4 c' j' hc' e
        rw [m4 i hi1 (by omega)] at hp'
        cases hp'

end Go.Proofs.Ybulkdukm
