/-
  THE PLAIN MODEL OF A checkedTally (law C): entries that wait, what is counted, the tenths, the reports. Speaks of no program.
-/
import Derived.Test.YbulkdugeSlc
namespace Go.Proofs.Ybulkduge
set_option linter.unusedVariables false

abbrev Ent := Nat × Bool

/-- Where key k stands. -/
def fnd (es : List Ent) (k : Nat) : Option Nat := es.findIdx? (fun e => e.1 == k)
/-- What stands at key k. -/
def lookE (es : List Ent) (k : Nat) : Option Bool := (es.find? (fun e => e.1 == k)).map Prod.snd
def setE (es : List Ent) (k : Nat) (f : Bool) : List Ent := match fnd es k with
  | some j => es.set j (k, f)
  | none => es ++ [(k, f)]
def Keys1 (es : List Ent) : Prop := (es.map Prod.fst).Nodup
def KeysLt (es : List Ent) : Prop := ∀ e ∈ es, e.1 < 2 ^ 64

theorem fnd_none {es : List Ent} {k : Nat} (h : fnd es k = none) : ∀ e ∈ es, e.1 ≠ k := by
  unfold fnd at h
  rw [List.findIdx?_eq_none_iff] at h
  intro e he
  simpa using h e he
theorem fnd_some {es : List Ent} {k j : Nat} (h : fnd es k = some j) : ∃ f, es[j]? = some (k, f) ∧ ∀ i, i < j → ∀ e, es[i]? = some e → e.1 ≠ k := by
  unfold fnd at h
  obtain ⟨hj, h1, h2⟩ := List.findIdx?_eq_some_iff_getElem.1 h
  refine ⟨(es[j]).2, ?_, ?_⟩
  · rw [List.getElem?_eq_getElem hj]
    have : (es[j]).1 = k := by simpa using h1
    rw [← this]
  · intro i hi e he
    have := h2 i hi
    rw [List.getElem?_eq_getElem (by omega)] at he
    simp only [Option.some.injEq] at he
    subst he
    simpa using this
theorem fnd_lt {es : List Ent} {k j : Nat} (h : fnd es k = some j) : j < es.length := by
  obtain ⟨f, h1, _⟩ := fnd_some h
  exact (List.getElem?_eq_some_iff.1 h1).1
theorem look_none {es : List Ent} {k : Nat} (h : fnd es k = none) : lookE es k = none := by
  unfold lookE
  rw [Option.map_eq_none_iff, List.find?_eq_none]
  intro e he
  simpa using fnd_none h e he
theorem look_of {es : List Ent} {k j : Nat} {f : Bool} (hn : Keys1 es) (h : es[j]? = some (k, f)) : lookE es k = some f := by
  induction es generalizing j with
  | nil => simp at h
  | cons e r ih =>
    simp only [Keys1, List.map_cons, List.nodup_cons] at hn
    cases j with
    | zero => simp at h; subst h; simp [lookE]
    | succ j =>
      rw [List.getElem?_cons_succ] at h
      have hne : e.1 ≠ k := fun he => hn.1 (by rw [he]; exact List.mem_map.2 ⟨(k, f), List.mem_of_getElem? h, rfl⟩)
      have := ih hn.2 h
      simp only [lookE, List.find?_cons] at this ⊢
      simp only [beq_eq_false_iff_ne.2 hne]
      exact this
theorem fnd_of {es : List Ent} {k j : Nat} {f : Bool} (hn : Keys1 es) (h : es[j]? = some (k, f)) : fnd es k = some j := by
  have hj := (List.getElem?_eq_some_iff.1 h).1
  cases hf : fnd es k with
  | none => exact absurd rfl (fnd_none hf (k, f) (List.mem_of_getElem? h))
  | some i =>
    obtain ⟨f', h1, _⟩ := fnd_some hf
    have hi := (List.getElem?_eq_some_iff.1 h1).1
    have e1 : (es.map Prod.fst)[i]'(by simpa using hi) = (es.map Prod.fst)[j]'(by simpa using hj) := by
      rw [List.getElem?_eq_getElem hi] at h1
      rw [List.getElem?_eq_getElem hj] at h
      simp only [Option.some.injEq] at h1 h
      simp [h1, h]
    rcases Nat.lt_trichotomy i j with hij | rfl | hij
    · exact absurd e1 (List.pairwise_iff_getElem.1 hn i j _ _ hij)
    · rfl
    · exact absurd e1.symm (List.pairwise_iff_getElem.1 hn j i _ _ hij)
theorem look_some_mem {es : List Ent} {k : Nat} {f : Bool} (h : lookE es k = some f) : (k, f) ∈ es := by
  unfold lookE at h
  rw [Option.map_eq_some_iff] at h
  obtain ⟨e, he, rfl⟩ := h
  have h1 := List.find?_some he
  have h2 := List.mem_of_find?_eq_some he
  have : e.1 = k := by simpa using h1
  rw [← this]
  exact h2
theorem look_iff {es : List Ent} (hn : Keys1 es) {k : Nat} {f : Bool} : lookE es k = some f ↔ (k, f) ∈ es := by
  refine ⟨look_some_mem, fun h => ?_⟩
  obtain ⟨j, hj⟩ := List.getElem?_of_mem h
  exact look_of hn hj
theorem look_ext {es es' : List Ent} (hn : Keys1 es) (hn' : Keys1 es') {k : Nat} (h : ∀ f, (k, f) ∈ es ↔ (k, f) ∈ es') : lookE es k = lookE es' k := by
  cases h1 : lookE es k with
  | some f => rw [(look_iff hn').2 ((h f).1 (look_some_mem h1))]
  | none =>
    cases h2 : lookE es' k with
    | none => rfl
    | some f => rw [(look_iff hn).2 ((h f).2 (look_some_mem h2))] at h1; cases h1

theorem set_keys {es : List Ent} {j k : Nat} {f g : Bool} (h : es[j]? = some (k, f)) : (es.set j (k, g)).map Prod.fst = es.map Prod.fst := by
  rw [List.map_set]
  apply List.ext_getElem?
  intro i
  rw [List.getElem?_set]
  split
  · rename_i e
    subst e
    split
    · simp [h]
    · rename_i hl
      rw [List.getElem?_eq_none (by omega)]
  · rfl
theorem setE_keys1 {es : List Ent} {k : Nat} {f : Bool} (hn : Keys1 es) : Keys1 (setE es k f) := by
  unfold setE
  cases hf : fnd es k with
  | some j =>
    obtain ⟨f', h1, _⟩ := fnd_some hf
    show ((es.set j (k, f)).map Prod.fst).Nodup
    rw [set_keys h1]
    exact hn
  | none =>
    show ((es ++ [(k, f)]).map Prod.fst).Nodup
    rw [List.map_append, List.nodup_append]
    refine ⟨hn, by simp, ?_⟩
    intro a ha b hb
    simp at hb
    subst hb
    obtain ⟨e, he, rfl⟩ := List.mem_map.1 ha
    exact fnd_none hf e he
theorem setE_lt {es : List Ent} {k : Nat} {f : Bool} (hk : k < 2 ^ 64) (h : KeysLt es) : KeysLt (setE es k f) := by
  unfold setE
  cases hf : fnd es k with
  | some j =>
    intro e he
    rcases List.mem_or_eq_of_mem_set he with h1 | rfl
    · exact h e h1
    · exact hk
  | none =>
    intro e he
    rcases List.mem_append.1 he with h1 | h1
    · exact h e h1
    · simp at h1; subst h1; exact hk
theorem setE_length {es : List Ent} {k : Nat} {f : Bool} : (setE es k f).length = if (lookE es k).isSome then es.length else es.length + 1 := by
  unfold setE
  cases hf : fnd es k with
  | some j =>
    obtain ⟨f', h1, h2⟩ := fnd_some hf
    have : (lookE es k).isSome = true := by
      unfold lookE
      rw [Option.isSome_map, List.find?_isSome]
      exact ⟨(k, f'), List.mem_of_getElem? h1, by simp⟩
    simp [this]
  | none => simp [look_none hf]
theorem look_setE {es : List Ent} {k k' : Nat} {f : Bool} (hn : Keys1 es) : lookE (setE es k f) k' = if k' = k then some f else lookE es k' := by
  have hn' := setE_keys1 (k := k) (f := f) hn
  split
  · rename_i e
    subst e
    refine (look_iff hn').2 ?_
    unfold setE
    cases hf : fnd es k' with
    | some j =>
      obtain ⟨f', h1, h2⟩ := fnd_some hf
      have hj := (List.getElem?_eq_some_iff.1 h1).1
      exact List.mem_of_getElem? (i := j) (by simp [hj])
    | none => simp
  · rename_i e
    refine look_ext hn' hn fun g => ?_
    unfold setE
    cases hf : fnd es k with
    | some j =>
      obtain ⟨f', h1, h2⟩ := fnd_some hf
      show (k', g) ∈ es.set j (k, f) ↔ _
      constructor
      · intro h
        rcases List.mem_or_eq_of_mem_set h with h1 | h1
        · exact h1
        · cases h1; exact absurd rfl e
      · intro h
        obtain ⟨i, hi⟩ := List.getElem?_of_mem h
        have hne : i ≠ j := fun he => by subst he; rw [h1] at hi; cases hi; exact e rfl
        exact List.mem_of_getElem? (i := i) (by rw [List.getElem?_set_ne hne.symm]; exact hi)
    | none =>
      show (k', g) ∈ es ++ [(k, f)] ↔ _
      simp
      intro h
      exact absurd h e

theorem erase_keys1 {es : List Ent} (hn : Keys1 es) (j : Nat) : Keys1 (es.eraseIdx j) := by
  unfold Keys1 at hn ⊢
  exact List.Nodup.sublist ((List.eraseIdx_sublist _ _).map _) hn
theorem erase_lt {es : List Ent} (h : KeysLt es) (j : Nat) : KeysLt (es.eraseIdx j) := fun e he => h e (List.mem_of_mem_eraseIdx he)
theorem look_erase {es : List Ent} {j k k' : Nat} {f : Bool} (hn : Keys1 es) (h : es[j]? = some (k, f)) : lookE (es.eraseIdx j) k' = if k' = k then none else lookE es k' := by
  have hn' := erase_keys1 hn j
  have hj := (List.getElem?_eq_some_iff.1 h).1
  have key : ∀ (i : Nat) (g : Bool), (es.eraseIdx j)[i]? = some (k, g) → False := by
    intro i g hi
    rw [List.getElem?_eraseIdx] at hi
    split at hi
    · have a := fnd_of hn hi
      have b := fnd_of hn h
      rw [a] at b
      simp at b
      omega
    · have a := fnd_of hn hi
      have b := fnd_of hn h
      rw [a] at b
      simp at b
      omega
  split
  · rename_i e
    subst e
    cases hl : lookE (es.eraseIdx j) k' with
    | none => rfl
    | some g =>
      obtain ⟨i, hi⟩ := List.getElem?_of_mem (look_some_mem hl)
      exact (key i g hi).elim
  · rename_i e
    refine look_ext hn' hn fun g => ⟨fun hm => List.mem_of_mem_eraseIdx hm, fun hm => ?_⟩
    obtain ⟨i, hi⟩ := List.getElem?_of_mem hm
    have hne : i ≠ j := fun he => by subst he; rw [h] at hi; cases hi; exact e rfl
    rcases Nat.lt_or_ge i j with h1 | h1
    · exact List.mem_of_getElem? (i := i) (by rw [List.getElem?_eraseIdx_of_lt h1]; exact hi)
    · exact List.mem_of_getElem? (i := i - 1) (by rw [List.getElem?_eraseIdx_of_ge (by omega), show i - 1 + 1 = i by omega]; exact hi)

/-! ### TENTHS -/
/-- The greatest k ≤ m with R·k ≤ 10·c (0 if none). -/
def tn (R c : Nat) : Nat → Nat
  | 0 => 0
  | k + 1 => if R * (k + 1) ≤ 10 * c then k + 1 else tn R c k
theorem tn_le (R c m : Nat) : tn R c m ≤ m := by
  induction m with
  | zero => exact Nat.le_refl _
  | succ m ih => unfold tn; split <;> omega
theorem tn_reach (R c m k : Nat) (h0 : 0 < k) (hm : k ≤ m) : R * k ≤ 10 * c ↔ k ≤ tn R c m := by
  induction m with
  | zero => omega
  | succ m ih =>
    unfold tn
    split
    · rename_i h
      refine ⟨fun _ => by omega, fun _ => Nat.le_trans (Nat.mul_le_mul_left R hm) h⟩
    · rename_i h
      by_cases hk : k ≤ m
      · exact ih hk
      · obtain rfl : k = m + 1 := by omega
        refine ⟨fun h' => absurd h' h, fun h' => ?_⟩
        have := tn_le R c m
        omega
/-- 'tenth'. -/
def tenthN (R i : Nat) : Nat := R / 10 * i + (R % 10 * i + 9) / 10
theorem tenthN_le (R i c : Nat) : tenthN R i ≤ c ↔ R * i ≤ 10 * c := by
  unfold tenthN
  have e : R * i = 10 * (R / 10 * i) + R % 10 * i := by
    conv => lhs; rw [← Nat.div_add_mod R 10]
    rw [Nat.add_mul, Nat.mul_assoc]
  rw [e]
  generalize R / 10 * i = a
  generalize R % 10 * i = b
  omega
theorem tenthN_bound (R i : Nat) (hi : i ≤ 10) : tenthN R i ≤ R := by
  have := (tenthN_le R i R).2 (by rw [Nat.mul_comm]; exact Nat.mul_le_mul_right R hi)
  exact this

/-! ### REPORTS AND THE TALLY -/
structure Pg where
  c : Nat
  f : Bool
  s : Nat

structure CSt where
  c : Nat
  f : Bool
  t : Nat
  es : List Ent
  lg : List Pg

/-- The seed that a report bears. -/
def seedV (sd c : Nat) (f : Bool) : Nat := if f then (sd + c + (2 ^ 64 - 1)) % 2 ^ 64 else 0
def upT (R c t : Nat) : Nat := if t < tn R c 10 then tn R c 10 else t
def countS (R sd : Nat) (s : CSt) (g : Bool) : CSt :=
  { c := s.c + 1, f := g, t := upT R (s.c + 1) s.t, es := s.es, lg := if s.t < tn R (s.c + 1) 10 then s.lg ++ [⟨s.c + 1, g, seedV sd (s.c + 1) g⟩] else s.lg }
def drain (R sd : Nat) : Nat → CSt → CSt
  | 0, s => s
  | n + 1, s => if s.f then s else match fnd s.es s.c with
    | none => s
    | some j => drain R sd n (countS R sd { s with es := s.es.eraseIdx j } ((lookE s.es s.c).getD false))
def recordS (R sd : Nat) (s : CSt) (i : Nat) (g : Bool) : CSt := drain R sd (setE s.es i g).length { s with es := setE s.es i g }

/-- What always holds of a tally behind n steps. -/
structure Fine (n : Nat) (s : CSt) : Prop where
  k1 : Keys1 s.es
  kl : KeysLt s.es
  sum : s.c + s.es.length ≤ n
  t10 : s.t ≤ 10
  lgl : s.lg.length ≤ s.c

theorem upT_le (R c t : Nat) (h : t ≤ 10) : upT R c t ≤ 10 := by
  unfold upT
  split
  · exact tn_le R c 10
  · exact h
theorem Fine.count {n R sd : Nat} {s : CSt} (h : Fine n s) {j : Nat} {f : Bool} (hj : s.es[j]? = some (s.c, f)) : Fine n (countS R sd { s with es := s.es.eraseIdx j } f) := by
  have hl := (List.getElem?_eq_some_iff.1 hj).1
  refine ⟨erase_keys1 h.k1 j, erase_lt h.kl j, ?_, upT_le _ _ _ h.t10, ?_⟩
  · have := h.sum
    show s.c + 1 + (s.es.eraseIdx j).length ≤ n
    rw [List.length_eraseIdx_of_lt hl]
    omega
  · have := h.lgl
    show (if s.t < tn R (s.c + 1) 10 then _ else s.lg).length ≤ s.c + 1
    split
    · simp; omega
    · omega
theorem drain_stop {R sd : Nat} {s : CSt} (h : s.f = true ∨ fnd s.es s.c = none) (m : Nat) : drain R sd m s = s := by
  cases m with
  | zero => rfl
  | succ m =>
    unfold drain
    rcases h with h | h
    · rw [if_pos h]
    · split
      · rfl
      · rw [h]
theorem drain_go {R sd : Nat} {s : CSt} {j : Nat} {f : Bool} (hf : s.f = false) (h1 : fnd s.es s.c = some j) (h2 : lookE s.es s.c = some f) :
    drain R sd s.es.length s = drain R sd (s.es.eraseIdx j).length (countS R sd { s with es := s.es.eraseIdx j } f) := by
  have hl := fnd_lt h1
  rw [List.length_eraseIdx_of_lt hl]
  obtain ⟨m, hm⟩ : ∃ m, s.es.length = m + 1 := ⟨s.es.length - 1, by omega⟩
  rw [hm]
  conv => lhs; unfold drain
  rw [if_neg (by simp [hf]), h1, h2]
  rfl
theorem Fine.drain {n R sd : Nat} (m : Nat) {s : CSt} (h : Fine n s) : Fine n (drain R sd m s) := by
  induction m generalizing s with
  | zero => exact h
  | succ m ih =>
    unfold Ybulkduge.drain
    split
    · exact h
    · cases hf : fnd s.es s.c with
      | none => exact h
      | some j =>
        obtain ⟨f, h1, _⟩ := fnd_some hf
        simp only [look_of h.k1 h1, Option.getD_some]
        exact ih (h.count h1)
theorem Fine.put {n : Nat} {s : CSt} (h : Fine n s) {i : Nat} (hi : i < 2 ^ 64) (g : Bool) : Fine (n + 1) { s with es := setE s.es i g } := by
  refine ⟨setE_keys1 h.k1, setE_lt hi h.kl, ?_, h.t10, h.lgl⟩
  have := h.sum
  show s.c + (setE s.es i g).length ≤ n + 1
  rw [setE_length]
  split <;> omega
theorem Fine.record {n R sd : Nat} {s : CSt} (h : Fine n s) {i : Nat} (hi : i < 2 ^ 64) (g : Bool) : Fine (n + 1) (recordS R sd s i g) := (h.put hi g).drain _

end Go.Proofs.Ybulkduge
