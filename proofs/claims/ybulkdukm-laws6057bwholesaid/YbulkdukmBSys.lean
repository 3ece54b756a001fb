/-
  THE GRAPH IN MEMORY, PIECE BY PIECE, AND WHAT TURNS EACH (law B).
-/
import Derived.Test.YbulkdukmBDrop
import Derived.Test.YbulkdukmBMap
import Derived.Test.YbulkdukmBSync
namespace Go.Proofs.Ybulkdukm
open Go.RowKit
set_option linter.unusedVariables false

/-- f, but v at i. -/
def upd {α : Type} (f : Nat → α) (i : Nat) (v : α) : Nat → α := fun x => if x = i then v else f x
theorem upd_same {α : Type} (f : Nat → α) (i : Nat) (v : α) : upd f i v i = v := by simp [upd]
theorem upd_ne {α : Type} (f : Nat → α) {i x : Nat} (v : α) (h : x ≠ i) : upd f i v x = f x := by simp [upd, h]
theorem ne_tag {w : World} {a b : Nat} {c1 c2 : Array Value} {t1 t2 : TypeId} {z1 z2 : Nat × Nat} (h1 : w.heap[a]? = some (.cells c1 t1 z1)) (h2 : w.heap[b]? = some (.cells c2 t2 z2)) (h : t1 ≠ t2) : a ≠ b := by
  rintro rfl
  rw [h1] at h2
  simp at h2
  exact h h2.2.1

def qcells (ao : Option Addr) (n cap at_ : Nat) : Array Value := #[.pointer none, .pointer none, .pointer none, .pointer none, .pointer none, .pointer none, .pointer none, .pointer none, .pointer none, .pointer none, .pointer none, .pointer none, .pointer none, .pointer none, .pointer none, .pointer none, .pointer none, .pointer none, .pointer none, .pointer none, .pointer none, .pointer none, .pointer none, .pointer none, .pointer none, .pointer none, .pointer none, .pointer none, .pointer none, .pointer none, .int .i64 0, .int .i64 0, .int .i64 0, .int .i64 0, .int .i64 0, .int .i64 0, .slice none 0 0, .int .u64 0, .int .u64 0, .int .u8 0, .slice ao n cap, .int .i64 (at_ : Int)]
def wcells (T N pos : Nat) : Array Value := #[pv T, pv N, .pointer none, .int .u8 0, .pointer none, .int .u64 0, .pointer none, .pointer none, .chan none, .int .i64 (pos : Int)]
def tcells (id : Nat) (v : Value) : Array Value := #[.pointer none, .int .u64 (id : Int), .pointer none, .map none, .pointer none, v, .int .i64 0, .int .u8 0, .bool false, .nilIface]
def ncells (Q : Nat) : Array Value := #[.string ByteArray.empty, .int .u64 0, .pointer none, .int .u8 0, .bool false, .bool false, .int .u8 0, .bool false, .int .u8 0, .pointer none, pv Q, .int .i64 0, .int .i64 0, .int .i64 0, .int .i64 0, .int .i64 0, .int .i64 0, .slice none 0 0, .int .i64 0, .int .i64 0, .int .i64 0, .int .i64 0, .int .i64 0, .int .i64 0, .pointer none, .pointer none]
def gcells (mu : Int) (ao : Option Addr) (n cap : Nat) (que : Int) (MB : Nat) : Array Value := #[.int .i32 0, .int .u32 0, .int .u64 0, .int .i32 mu, .int .u32 0, .slice ao n cap, .int .i64 que, .map (some MB)]
theorem qcells_40 (ao : Option Addr) (n cap at_ : Nat) (ao' : Option Addr) (n' cap' : Nat) : (qcells ao n cap at_).setIfInBounds 40 (.slice ao' n' cap') = qcells ao' n' cap' at_ := rfl
theorem qcells_41 (ao : Option Addr) (n cap at_ v : Nat) : (qcells ao n cap at_).setIfInBounds 41 (.int .i64 (v : Int)) = qcells ao n cap v := rfl
theorem wcells_9 (T N pos v : Nat) : (wcells T N pos).setIfInBounds 9 (.int .i64 (v : Int)) = wcells T N v := rfl
theorem tcells_5 (id : Nat) (v u : Value) : (tcells id v).setIfInBounds 5 u = tcells id u := rfl
theorem gcells_3 (mu v : Int) (ao : Option Addr) (n cap : Nat) (que : Int) (MB : Nat) : (gcells mu ao n cap que MB).setIfInBounds 3 (.int .i32 v) = gcells v ao n cap que MB := rfl
theorem gcells_5 (mu : Int) (ao ao' : Option Addr) (n cap n' cap' : Nat) (que : Int) (MB : Nat) : (gcells mu ao n cap que MB).setIfInBounds 5 (.slice ao' n' cap') = gcells mu ao' n' cap' que MB := rfl
theorem gcells_6 (mu : Int) (ao : Option Addr) (n cap : Nat) (que v : Int) (MB : Nat) : (gcells mu ao n cap que MB).setIfInBounds 6 (.int .i64 v) = gcells mu ao n cap v MB := rfl

/-- The nodes. -/
def NS (w : World) (nk : Nat) (Nb Qb : Nat → Nat) : Prop := ∀ j, j < nk → w.heap[Nb j]? = some (.cells (ncells (Qb j)) 64 (0, 0))
/-- The entries of a node's list of waiters; of the list of nodes. -/
def eW (K : Nat → Nat) (i : Nat) : Ent := (K i, K i, 9)
def eN (Nb Qb : Nat → Nat) (j : Nat) : Ent := (Nb j, Qb j, 41)
/-- The queues: each node's list of waiters, its index among the nodes. -/
structure QS (w : World) (nk : Nat) (Qb K : Nat → Nat) (wl : Nat → List Nat) (ao : Nat → Option Addr) (cp qa : Nat → Nat) : Prop where
  q : ∀ j, j < nk → w.heap[Qb j]? = some (.cells (qcells (ao j) (wl j).length (cp j) (qa j)) 60 (0, 0))
  s : ∀ j, j < nk → Slc w 106 2 (ao j) (wl j).length (cp j) (ents ((wl j).map (eW K)))
  o : ∀ j j', j < nk → j' < nk → j ≠ j' → ∀ g ∈ ownB (ao j) (cp j), g ∉ ownB (ao j') (cp j')
  inj : ∀ j j', j < nk → j' < nk → Qb j = Qb j' → j = j'
/-- The graph. -/
structure GS (w : World) (GB MB : Nat) (Nb Qb : Nat → Nat) (mu : Int) (nl : List Nat) (ao : Option Addr) (cp : Nat) (que : Int) : Prop where
  g : w.heap[GB]? = some (.cells (gcells mu ao nl.length cp que MB) 77 (0, 0))
  s : Slc w 108 2 ao nl.length cp (ents (nl.map (eN Nb Qb)))
/-- The waiters: their nodes, their indices. -/
structure KS (w : World) (n : Nat) (K T : Nat → Nat) (Nb nd pos : Nat → Nat) : Prop where
  k : ∀ i, i < n → w.heap[K i]? = some (.cells (wcells (T i) (Nb (nd i)) (pos i)) 99 (0, 0))
  inj : ∀ i i', i < n → i' < n → K i = K i' → i = i'
/-- The transactions: their IDs, what they wait through. -/
structure TS (w : World) (n : Nat) (K T id : Nat → Nat) (wt : Nat → Bool) : Prop where
  t : ∀ i, i < n → w.heap[T i]? = some (.cells (tcells (id i) (if wt i then pv (K i) else .pointer none)) 94 (0, 0))
  inj : ∀ i i', i < n → i' < n → T i = T i' → i = i'

section
variable {S : List Nat} {w w' : World} {nk n GB MB : Nat} {Nb Qb K T nd id pos : Nat → Nat} {wl : Nat → List Nat} {ao : Nat → Option Addr} {cp qa : Nat → Nat} {mu que : Int} {nl : List Nat} {aoN : Option Addr} {cpN : Nat} {wt : Nat → Bool}

theorem NS.outside (h : NS w nk Nb Qb) (ho : Outside S w w') (h1 : ∀ j, j < nk → Nb j ∉ S) : NS w' nk Nb Qb := fun j hj => ho.obj (h j hj) (h1 j hj)
theorem QS.outside (h : QS w nk Qb K wl ao cp qa) (ho : Outside S w w') (h1 : ∀ j, j < nk → Qb j ∉ S) (h2 : ∀ j, j < nk → ∀ g ∈ ownB (ao j) (cp j), g ∉ S) : QS w' nk Qb K wl ao cp qa :=
  ⟨fun j hj => ho.obj (h.q j hj) (h1 j hj), fun j hj => (h.s j hj).outside ho (h2 j hj), h.o, h.inj⟩
theorem GS.outside (h : GS w GB MB Nb Qb mu nl aoN cpN que) (ho : Outside S w w') (h1 : GB ∉ S) (h2 : ∀ g ∈ ownB aoN cpN, g ∉ S) : GS w' GB MB Nb Qb mu nl aoN cpN que :=
  ⟨ho.obj h.g h1, h.s.outside ho h2⟩
theorem KS.outside (h : KS w n K T Nb nd pos) (ho : Outside S w w') (h1 : ∀ i, i < n → K i ∉ S) : KS w' n K T Nb nd pos := ⟨fun i hi => ho.obj (h.k i hi) (h1 i hi), h.inj⟩
theorem TS.outside (h : TS w n K T id wt) (ho : Outside S w w') (h1 : ∀ i, i < n → T i ∉ S) : TS w' n K T id wt := ⟨fun i hi => ho.obj (h.t i hi) (h1 i hi), h.inj⟩

/-- A node's index turns. -/
theorem QS.setAt (h : QS w nk Qb K wl ao cp qa) (ho : Outside S w w') {j v : Nat} (hj : j < nk) (hq : w'.heap[Qb j]? = some (.cells (qcells (ao j) (wl j).length (cp j) v) 60 (0, 0))) (h1 : ∀ x, x < nk → x ≠ j → Qb x ∉ S) (h2 : ∀ x, x < nk → ∀ g ∈ ownB (ao x) (cp x), g ∉ S) : QS w' nk Qb K wl ao cp (upd qa j v) := by
  refine ⟨fun x hx => ?_, fun x hx => (h.s x hx).outside ho (h2 x hx), h.o, h.inj⟩
  by_cases hxj : x = j
  · subst hxj
    rw [upd_same]
    exact hq
  · rw [upd_ne qa v hxj]
    exact ho.obj (h.q x hx) (h1 x hx hxj)
/-- A node's list turns: what it owns it owned before, or it is new. -/
theorem QS.setList (h : QS w nk Qb K wl ao cp qa) (ho : Outside S w w') {j : Nat} (hj : j < nk) {l : List Nat} {a' : Option Addr} {c' : Nat} (hq : w'.heap[Qb j]? = some (.cells (qcells a' l.length c' (qa j)) 60 (0, 0))) (hs : Slc w' 106 2 a' l.length c' (ents (l.map (eW K))))
    (hown : ∀ g ∈ ownB a' c', g ∈ ownB (ao j) (cp j) ∨ w.heap.size ≤ g) (h1 : ∀ x, x < nk → x ≠ j → Qb x ∉ S) (h2 : ∀ x, x < nk → x ≠ j → ∀ g ∈ ownB (ao x) (cp x), g ∉ S) : QS w' nk Qb K (upd wl j l) (upd ao j a') (upd cp j c') qa := by
  have hnew : ∀ x, x < nk → x ≠ j → ∀ g ∈ ownB a' c', g ∉ ownB (ao x) (cp x) := fun x hx hxj g hg hm => by
    rcases hown g hg with h3 | h3
    · exact h.o j x hj hx (fun e => hxj e.symm) g h3 hm
    · have := (h.s x hx).lt g hm
      omega
  refine ⟨fun x hx => ?_, fun x hx => ?_, fun x y hx hy hxy g hg => ?_, h.inj⟩
  · by_cases hxj : x = j
    · subst hxj
      rw [upd_same, upd_same, upd_same]
      exact hq
    · rw [upd_ne _ _ hxj, upd_ne _ _ hxj, upd_ne _ _ hxj]
      exact ho.obj (h.q x hx) (h1 x hx hxj)
  · by_cases hxj : x = j
    · subst hxj
      rw [upd_same, upd_same, upd_same]
      exact hs
    · rw [upd_ne _ _ hxj, upd_ne _ _ hxj, upd_ne _ _ hxj]
      exact (h.s x hx).outside ho (h2 x hx hxj)
  · by_cases hxj : x = j
    · subst hxj
      rw [upd_same, upd_same] at hg
      rw [upd_ne _ _ (fun e => hxy e.symm), upd_ne _ _ (fun e => hxy e.symm)]
      exact hnew y hy (fun e => hxy e.symm) g hg
    · rw [upd_ne _ _ hxj, upd_ne _ _ hxj] at hg
      by_cases hyj : y = j
      · subst hyj
        rw [upd_same, upd_same]
        intro hm
        exact hnew x hx hxj g hm hg
      · rw [upd_ne _ _ hyj, upd_ne _ _ hyj]
        exact h.o x y hx hy hxy g hg
theorem KS.setPos (h : KS w n K T Nb nd pos) (ho : Outside S w w') {i v : Nat} (hi : i < n) (hk : w'.heap[K i]? = some (.cells (wcells (T i) (Nb (nd i)) v) 99 (0, 0))) (h1 : ∀ x, x < n → x ≠ i → K x ∉ S) : KS w' n K T Nb nd (upd pos i v) := by
  refine ⟨fun x hx => ?_, h.inj⟩
  by_cases hxi : x = i
  · subst hxi
    rw [upd_same]
    exact hk
  · rw [upd_ne pos v hxi]
    exact ho.obj (h.k x hx) (h1 x hx hxi)
theorem TS.setW (h : TS w n K T id wt) (ho : Outside S w w') {i : Nat} {b : Bool} (hi : i < n) (hk : w'.heap[T i]? = some (.cells (tcells (id i) (if b then pv (K i) else .pointer none)) 94 (0, 0))) (h1 : ∀ x, x < n → x ≠ i → T x ∉ S) : TS w' n K T id (upd wt i b) := by
  refine ⟨fun x hx => ?_, h.inj⟩
  by_cases hxi : x = i
  · subst hxi
    rw [upd_same]
    exact hk
  · rw [upd_ne wt b hxi]
    exact ho.obj (h.t x hx) (h1 x hx hxi)
end

end Go.Proofs.Ybulkdukm
