/-
  THE GRAPH AS A WHOLE, AND ITS STEPS (law B).
-/
import Derived.Test.YbulkdukmBSys
namespace Go.Proofs.Ybulkdukm
open Go.RowKit
set_option linter.unusedVariables false

theorem Slc.apart {w : World} {e e' : TypeId} {s s' n n' c c' : Nat} {a a' : Option Addr} {xs ys : List Value} (h : Slc w e s a n c xs) (h' : Slc w e' s' a' n' c' ys) (hne : e ≠ e') : ∀ g ∈ ownB a c, g ∉ ownB a' c' := by
  intro g hg
  have h0 : c ≠ 0 := by intro h0; simp [ownB, h0] at hg
  obtain ⟨b, off, cur, he, hh, _⟩ := h.at_ (by omega)
  simp only [ownB, h0, if_false, he] at hg
  simp at hg
  subst hg
  exact h'.not_own' hh (fun e => hne e.symm)

/-- What does not turn: how many, where. -/
structure Lay where
  nk : Nat
  n : Nat
  GB : Nat
  MB : Nat
  Nb : Nat → Nat
  Qb : Nat → Nat
  K : Nat → Nat
  T : Nat → Nat
  nd : Nat → Nat
  id : Nat → Nat
/-- What does. -/
structure Sta where
  wl : Nat → List Nat
  ao : Nat → Option Addr
  cp : Nat → Nat
  qa : Nat → Nat
  mu : Int
  nl : List Nat
  aoN : Option Addr
  cpN : Nat
  que : Int
  pos : Nat → Nat
  wt : Nat → Bool
  m : Nat → Option Nat
  sz : Nat

structure Sys (w : World) (L : Lay) (s : Sta) : Prop where
  ns : NS w L.nk L.Nb L.Qb
  qs : QS w L.nk L.Qb L.K s.wl s.ao s.cp s.qa
  gs : GS w L.GB L.MB L.Nb L.Qb s.mu s.nl s.aoN s.cpN s.que
  mp : MapP w L.MB s.m s.sz
  ks : KS w L.n L.K L.T L.Nb L.nd s.pos
  ts : TS w L.n L.K L.T L.id s.wt

section
variable {w w' : World} {L : Lay} {s : Sta}

/-- A block that is none of the graph's. -/
structure Clear (L : Lay) (s : Sta) (S : List Nat) : Prop where
  nb : ∀ j, j < L.nk → L.Nb j ∉ S
  qb : ∀ j, j < L.nk → L.Qb j ∉ S
  ow : ∀ j, j < L.nk → ∀ g ∈ ownB (s.ao j) (s.cp j), g ∉ S
  gb : L.GB ∉ S
  on : ∀ g ∈ ownB s.aoN s.cpN, g ∉ S
  mb : L.MB ∉ S
  k : ∀ i, i < L.n → L.K i ∉ S
  t : ∀ i, i < L.n → L.T i ∉ S
theorem Sys.outside (h : Sys w L s) {S : List Nat} (ho : Outside S w w') (c : Clear L s S) : Sys w' L s :=
  ⟨h.ns.outside ho c.nb, h.qs.outside ho c.qb c.ow, h.gs.outside ho c.gb c.on, h.mp.outside ho c.mb, h.ks.outside ho c.k, h.ts.outside ho c.t⟩
theorem Clear.nil (L : Lay) (s : Sta) : Clear L s [] := ⟨by simp, by simp, by simp, by simp, by simp, by simp, by simp, by simp⟩

theorem Sys.nb_own (h : Sys w L s) {j j' : Nat} (hj : j < L.nk) (hj' : j' < L.nk) : L.Nb j ∉ ownB (s.ao j') (s.cp j') := (h.qs.s j' hj').not_own' (h.ns j hj) (by decide)
theorem Sys.qb_own (h : Sys w L s) {j j' : Nat} (hj : j < L.nk) (hj' : j' < L.nk) : L.Qb j ∉ ownB (s.ao j') (s.cp j') := (h.qs.s j' hj').not_own' (h.qs.q j hj) (by decide)
theorem Sys.gb_own (h : Sys w L s) {j' : Nat} (hj' : j' < L.nk) : L.GB ∉ ownB (s.ao j') (s.cp j') := (h.qs.s j' hj').not_own' h.gs.g (by decide)
theorem Sys.k_own (h : Sys w L s) {i j' : Nat} (hi : i < L.n) (hj' : j' < L.nk) : L.K i ∉ ownB (s.ao j') (s.cp j') := (h.qs.s j' hj').not_own' (h.ks.k i hi) (by decide)
theorem Sys.t_own (h : Sys w L s) {i j' : Nat} (hi : i < L.n) (hj' : j' < L.nk) : L.T i ∉ ownB (s.ao j') (s.cp j') := (h.qs.s j' hj').not_own' (h.ts.t i hi) (by decide)
theorem Sys.mb_own (h : Sys w L s) {j' : Nat} (hj' : j' < L.nk) : L.MB ∉ ownB (s.ao j') (s.cp j') := h.mp.not_own (h.qs.s j' hj')
theorem Sys.nb_on (h : Sys w L s) {j : Nat} (hj : j < L.nk) : L.Nb j ∉ ownB s.aoN s.cpN := h.gs.s.not_own' (h.ns j hj) (by decide)
theorem Sys.qb_on (h : Sys w L s) {j : Nat} (hj : j < L.nk) : L.Qb j ∉ ownB s.aoN s.cpN := h.gs.s.not_own' (h.qs.q j hj) (by decide)
theorem Sys.gb_on (h : Sys w L s) : L.GB ∉ ownB s.aoN s.cpN := h.gs.s.not_own' h.gs.g (by decide)
theorem Sys.k_on (h : Sys w L s) {i : Nat} (hi : i < L.n) : L.K i ∉ ownB s.aoN s.cpN := h.gs.s.not_own' (h.ks.k i hi) (by decide)
theorem Sys.t_on (h : Sys w L s) {i : Nat} (hi : i < L.n) : L.T i ∉ ownB s.aoN s.cpN := h.gs.s.not_own' (h.ts.t i hi) (by decide)
theorem Sys.mb_on (h : Sys w L s) : L.MB ∉ ownB s.aoN s.cpN := h.mp.not_own h.gs.s
theorem Sys.on_own (h : Sys w L s) {j : Nat} (hj : j < L.nk) : ∀ g ∈ ownB s.aoN s.cpN, g ∉ ownB (s.ao j) (s.cp j) := h.gs.s.apart (h.qs.s j hj) (by decide)
theorem Sys.own_on (h : Sys w L s) {j : Nat} (hj : j < L.nk) : ∀ g ∈ ownB (s.ao j) (s.cp j), g ∉ ownB s.aoN s.cpN := (h.qs.s j hj).apart h.gs.s (by decide)

/-- One of the graph's cells turns: the lock, the count. -/
theorem Sys.setG (h : Sys w L s) (mu que : Int) (hg : w'.heap[L.GB]? = some (.cells (gcells mu s.aoN s.nl.length s.cpN que L.MB) 77 (0, 0))) (ho : Outside [L.GB] w w') : Sys w' L { s with mu := mu, que := que } :=
  ⟨h.ns.outside ho (fun j hj => by simpa using ne_tag (h.ns j hj) h.gs.g (by decide)), h.qs.outside ho (fun j hj => by simpa using ne_tag (h.qs.q j hj) h.gs.g (by decide)) (fun j hj g hg => by simp; rintro rfl; exact h.gb_own hj hg),
    ⟨hg, h.gs.s.outside ho (fun g hg => by simp; rintro rfl; exact h.gb_on hg)⟩, h.mp.outside ho (by simpa using fun e => h.mp.ne h.gs.g e.symm), h.ks.outside ho (fun i hi => by simpa using ne_tag (h.ks.k i hi) h.gs.g (by decide)), h.ts.outside ho (fun i hi => by simpa using ne_tag (h.ts.t i hi) h.gs.g (by decide))⟩
theorem Sys.setM (h : Sys w L s) {m : Nat → Option Nat} {sz : Nat} (hm : MapP w' L.MB m sz) (ho : Outside [L.MB] w w') : Sys w' L { s with m := m, sz := sz } :=
  ⟨h.ns.outside ho (fun j hj => by simpa using h.mp.ne (h.ns j hj)), h.qs.outside ho (fun j hj => by simpa using h.mp.ne (h.qs.q j hj)) (fun j hj g hg => by simp; rintro rfl; exact h.mb_own hj hg),
    h.gs.outside ho (by simpa using h.mp.ne h.gs.g) (fun g hg => by simp; rintro rfl; exact h.mb_on hg), hm, h.ks.outside ho (fun i hi => by simpa using h.mp.ne (h.ks.k i hi)), h.ts.outside ho (fun i hi => by simpa using h.mp.ne (h.ts.t i hi))⟩
theorem Sys.setT (h : Sys w L s) {i : Nat} (hi : i < L.n) (b : Bool) (hk : w'.heap[L.T i]? = some (.cells (tcells (L.id i) (if b then pv (L.K i) else .pointer none)) 94 (0, 0))) (ho : Outside [L.T i] w w') : Sys w' L { s with wt := upd s.wt i b } :=
  ⟨h.ns.outside ho (fun j hj => by simpa using ne_tag (h.ns j hj) (h.ts.t i hi) (by decide)), h.qs.outside ho (fun j hj => by simpa using ne_tag (h.qs.q j hj) (h.ts.t i hi) (by decide)) (fun j hj g hg => by simp; rintro rfl; exact h.t_own hi hj hg),
    h.gs.outside ho (by simpa using ne_tag h.gs.g (h.ts.t i hi) (by decide)) (fun g hg => by simp; rintro rfl; exact h.t_on hi hg), h.mp.outside ho (by simpa using fun e => h.mp.ne (h.ts.t i hi) e.symm), h.ks.outside ho (fun x hx => by simpa using ne_tag (h.ks.k x hx) (h.ts.t i hi) (by decide)),
    h.ts.setW ho hi hk (fun x hx hxi => by simp; exact fun e => hxi (h.ts.inj x i hx hi e))⟩

/-- A node's list turns, and with it (perhaps) one waiter's index. -/
theorem Sys.setQ (h : Sys w L s) {j : Nat} (hj : j < L.nk) {l : List Nat} {a' : Option Addr} {c' : Nat} {pos : Nat → Nat} (S : List Nat) (ho : Outside S w w') (hS : ∀ x ∈ S, x = L.Qb j ∨ x ∈ ownB (s.ao j) (s.cp j) ∨ ∃ i, i < L.n ∧ x = L.K i)
    (hq : w'.heap[L.Qb j]? = some (.cells (qcells a' l.length c' (s.qa j)) 60 (0, 0))) (hs : Slc w' 106 2 a' l.length c' (ents (l.map (eW L.K)))) (hown : ∀ g ∈ ownB a' c', g ∈ ownB (s.ao j) (s.cp j) ∨ w.heap.size ≤ g) (hk : KS w' L.n L.K L.T L.Nb L.nd pos) :
    Sys w' L { s with wl := upd s.wl j l, ao := upd s.ao j a', cp := upd s.cp j c', pos := pos } := by
  have no : ∀ b, b ≠ L.Qb j → b ∉ ownB (s.ao j) (s.cp j) → (∀ i, i < L.n → b ≠ L.K i) → b ∉ S := fun b h1 h2 h3 hm => by
    rcases hS b hm with e | e | ⟨i, hi, e⟩
    · exact h1 e
    · exact h2 e
    · exact h3 i hi e
  refine ⟨h.ns.outside ho (fun x hx => no _ (ne_tag (h.ns x hx) (h.qs.q j hj) (by decide)) (h.nb_own hx hj) (fun i hi => ne_tag (h.ns x hx) (h.ks.k i hi) (by decide))), ?_, ?_, ?_, hk, ?_⟩
  · exact h.qs.setList ho hj hq hs hown (fun x hx hxj => no _ (fun e => hxj (h.qs.inj x j hx hj e)) (h.qb_own hx hj) (fun i hi => ne_tag (h.qs.q x hx) (h.ks.k i hi) (by decide)))
      (fun x hx hxj g hg => no g (by rintro rfl; exact h.qb_own hj hx hg) (h.qs.o x j hx hj hxj g hg) (fun i hi => by rintro rfl; exact h.k_own hi hx hg))
  · exact h.gs.outside ho (no _ (ne_tag h.gs.g (h.qs.q j hj) (by decide)) (h.gb_own hj) (fun i hi => ne_tag h.gs.g (h.ks.k i hi) (by decide))) (fun g hg => no g (by rintro rfl; exact h.qb_on hj hg) (h.on_own hj g hg) (fun i hi => by rintro rfl; exact h.k_on hi hg))
  · exact h.mp.outside ho (no _ (fun e => h.mp.ne (h.qs.q j hj) e.symm) (h.mb_own hj) (fun i hi e => h.mp.ne (h.ks.k i hi) e.symm))
  · exact h.ts.outside ho (fun x hx => no _ (ne_tag (h.ts.t x hx) (h.qs.q j hj) (by decide)) (h.t_own hx hj) (fun i hi => ne_tag (h.ts.t x hx) (h.ks.k i hi) (by decide)))
/-- The list of nodes turns, and with it (perhaps) one node's index. -/
theorem Sys.setN (h : Sys w L s) {l : List Nat} {a' : Option Addr} {c' : Nat} {qa : Nat → Nat} (S : List Nat) (ho : Outside S w w') (hS : ∀ x ∈ S, x = L.GB ∨ x ∈ ownB s.aoN s.cpN ∨ ∃ j, j < L.nk ∧ x = L.Qb j)
    (hg : w'.heap[L.GB]? = some (.cells (gcells s.mu a' l.length c' s.que L.MB) 77 (0, 0))) (hs : Slc w' 108 2 a' l.length c' (ents (l.map (eN L.Nb L.Qb)))) (hq : QS w' L.nk L.Qb L.K s.wl s.ao s.cp qa) :
    Sys w' L { s with nl := l, aoN := a', cpN := c', qa := qa } := by
  have no : ∀ b, b ≠ L.GB → b ∉ ownB s.aoN s.cpN → (∀ j, j < L.nk → b ≠ L.Qb j) → b ∉ S := fun b h1 h2 h3 hm => by
    rcases hS b hm with e | e | ⟨i, hi, e⟩
    · exact h1 e
    · exact h2 e
    · exact h3 i hi e
  refine ⟨h.ns.outside ho (fun x hx => no _ (ne_tag (h.ns x hx) h.gs.g (by decide)) (h.nb_on hx) (fun j hj => ne_tag (h.ns x hx) (h.qs.q j hj) (by decide))), hq, ⟨hg, hs⟩, ?_, ?_, ?_⟩
  · exact h.mp.outside ho (no _ (fun e => h.mp.ne h.gs.g e.symm) h.mb_on (fun j hj e => h.mp.ne (h.qs.q j hj) e.symm))
  · exact h.ks.outside ho (fun x hx => no _ (ne_tag (h.ks.k x hx) h.gs.g (by decide)) (h.k_on hx) (fun j hj => ne_tag (h.ks.k x hx) (h.qs.q j hj) (by decide)))
  · exact h.ts.outside ho (fun x hx => no _ (ne_tag (h.ts.t x hx) h.gs.g (by decide)) (h.t_on hx) (fun j hj => ne_tag (h.ts.t x hx) (h.qs.q j hj) (by decide)))
end

end Go.Proofs.Ybulkdukm
