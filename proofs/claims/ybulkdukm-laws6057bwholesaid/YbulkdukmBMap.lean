/-
  A map[uint64]*waiter OF THE CALL's OWN, AS A FUNCTION FROM KEYS TO BLOCKS (law B).
-/
import Derived.Test.YbulkdukmSlc
import Derived.Test.YbulkdukmProg
import Derived.Maps.OwnSet
namespace Go.Proofs.Ybulkdukm
open Go.RowKit Go.Maps
set_option linter.unusedVariables false

theorem law22 : Keyed Yba.prog 22 := int_keyed Yba.underlying22
theorem zero46 (w : World) : (zeroValue 46).run Yba.prog w = .ok (.pointer none) w := by kernel_rfl
theorem wf_u64 {k : Nat} (hk : k < 2 ^ 64) : (Lit.int .u64 (k : Int)).wf = true := by
  simp [Lit.wf, IntKind.min, IntKind.max, IntKind.signed, IntKind.bits]
  omega
theorem key64 {k : Nat} (hk : k < 2 ^ 64) : keyOf Yba.prog 22 (.int .u64 (k : Int)) = some (.int .u64 (k : Int)) := keyOf_int_mk Yba.underlying22 (wf_u64 hk)

/-- How an element reads here: the block that it points to, and one; 0 for nil. -/
def rp : Value → Option (DataW Unit × List MemPlace)
  | .pointer none => some (.lit (.int .u64 0), [])
  | .pointer (some ⟨b, 0, none⟩) => some (.lit (.int .u64 ((b : Int) + 1)), [])
  | _ => none
/-- A pointer to the block, or nil. -/
def pb (o : Option Nat) : Value := .pointer (o.map fun b => ⟨b, 0, none⟩)
def lb (o : Option Nat) : DataW Unit := .lit (.int .u64 (match o with | some b => (b : Int) + 1 | none => 0))
theorem rp_pb (o : Option Nat) : rp (pb o) = some (lb o, []) := by cases o <;> rfl
theorem rp_inv {v : Value} {o : Option Nat} {ps : List MemPlace} (h : rp v = some (lb o, ps)) : v = pb o := by
  unfold rp at h
  split at h
  · cases o with
    | none => rfl
    | some b => simp [lb] at h; omega
  · rename_i b
    cases o with
    | none => simp [lb] at h; omega
    | some b' =>
      simp [lb] at h
      obtain rfl : b = b' := by omega
      rfl
  · cases h

theorem ownsMap_tight {P : Program} {k : TypeId} {R : Value → Option (DataW Unit × List MemPlace)} {w : World} {b n : Nat} {D : DataW Unit} (h : w.ownsMap P k R b n D) : w.ownsMap P k R b (Maps.size D) D := by
  obtain ⟨es, clock, hb, F, hs, rfl⟩ := h
  exact ⟨es, clock, hb, F, by simp [Maps.size, length_sorted], rfl⟩

/-- Block M is a map that sends each key to m's answer; it has sz entries. -/
def MapP (w : World) (M : Nat) (m : Nat → Option Nat) (sz : Nat) : Prop :=
  ∃ D : DataW Unit, w.ownsMap Yba.prog 22 rp M sz D ∧ Maps.size D = sz ∧
    ∀ k : Nat, k < 2 ^ 64 → Maps.has D (.int .u64 (k : Int)) = (m k).isSome ∧ D.atKey (.int .u64 (k : Int)) (lb none) = lb (m k)

section
variable {w w' : World} {M sz : Nat} {m : Nat → Option Nat}

theorem MapP.lt (h : MapP w M m sz) : M < w.heap.size := by obtain ⟨D, h1, _⟩ := h; exact h1.lt
theorem MapP.of_block (h : MapP w M m sz) (hb : w'.heap[M]? = w.heap[M]?) : MapP w' M m sz := by
  obtain ⟨D, ⟨es', clock, hb', r⟩, h4⟩ := h
  exact ⟨D, ⟨es', clock, by rw [hb]; exact hb', r⟩, h4⟩
theorem MapP.outside {S : List Nat} (h : MapP w M m sz) (ho : Outside S w w') (hn : M ∉ S) : MapP w' M m sz := h.of_block (ho.block M h.lt hn)
/-- It is no row of cells. -/
theorem MapP.ne {b : Nat} {cs : Array Value} {t : TypeId} {z : Nat × Nat} (h : MapP w M m sz) (hb : w.heap[b]? = some (.cells cs t z)) : b ≠ M := by
  intro he
  subst he
  obtain ⟨D, ⟨es', clock, hb', r⟩, h4⟩ := h
  rw [hb'] at hb
  cases hb
theorem MapP.not_own {e : TypeId} {size : Nat} {ao : Option Addr} {n cap : Nat} {xs : List Value} (h : MapP w M m sz) (hs : Slc w e size ao n cap xs) : M ∉ ownB ao cap := by
  intro hm
  have h0 : cap ≠ 0 := by intro h0; simp [ownB, h0] at hm
  obtain ⟨g, off, cur, he, hh, _⟩ := hs.at_ (by omega)
  simp only [ownB, h0, if_false, he] at hm
  simp at hm
  subst hm
  exact h.ne hh rfl
theorem MapP.made (w : World) : MapP (w.alloc (.map #[] 0)) w.heap.size (fun _ => none) 0 :=
  ⟨.map [], World.ownsMap_made w _ _ _, rfl, fun k hk => ⟨rfl, rfl⟩⟩
theorem MapP.look (h : MapP w M m sz) {k : Nat} (hk : k < 2 ^ 64) : (Instr.lookup 66 (.map (some M)) (.int .u64 (k : Int)) true).run Yba.prog w = .ok (.tuple #[pb (m k), .bool (m k).isSome]) w := by
  obtain ⟨D, h3, h4, h5⟩ := h
  obtain ⟨v, ps, hrun, hv⟩ := h3.look_ok law22 Yba.underlying66 (zero46 w) (rp_pb none) (key64 hk)
  rw [(h5 k hk).2] at hv
  rw [hrun, (h5 k hk).1, rp_inv hv]
theorem MapP.len (h : MapP w M m sz) (ty : TypeId) : (Builtin.len_ #[66] ty #[.map (some M)]).run Yba.prog w = .ok (.int .i64 (sz : Int)) w := by
  obtain ⟨D, h3, h4, h5⟩ := h
  rw [h3.len Yba.underlying66 ty, h4]
theorem MapP.put (h : MapP w M m sz) {k : Nat} (hk : k < 2 ^ 64) (b : Nat) (hm : sz < maxLen) : ∃ w', (Instr.mapUpdate 66 (.map (some M)) (.int .u64 (k : Int)) (.pointer (some ⟨b, 0, none⟩))).run Yba.prog w = .ok () w' ∧
    MapP w' M (fun x => if x = k then some b else m x) (if (m k).isSome then sz else sz + 1) ∧ Outside [M] w w' := by
  obtain ⟨D, h3, h4, h5⟩ := h
  have hti := h3.tidy law22
  have him := h3.isMap
  have hik : WideAt.IsKeyLit (Lit.int .u64 (k : Int)) := law22.key (key64 hk)
  obtain ⟨w', hrun, hown, hg⟩ := h3.update law22 Yba.underlying66 hm (key64 hk) (rp_pb (some b))
  have hsz : Maps.size (D.put (.int .u64 (k : Int)) (lb (some b))) = (if (m k).isSome then sz else sz + 1) := by
    rw [Maps.size_put hti, (h5 k hk).1, h4]
  refine ⟨w', hrun, ⟨_, by have := ownsMap_tight hown; rw [hsz] at this; exact this, hsz, fun k' hk' => ?_⟩, Outside.of_grown hg (by simp)⟩
  dsimp only
  by_cases he : k' = k
  · subst he
    rw [if_pos rfl, Maps.has_put_same him hik, Maps.atKey_put_same him hik]
    exact ⟨rfl, rfl⟩
  · have hne : (Lit.int .u64 (k' : Int)) ≠ Lit.int .u64 (k : Int) := by
      intro h
      injection h with _ h
      omega
    rw [if_neg he, Maps.has_put_other hne, Maps.atKey_put_other hne]
    exact h5 k' hk'
theorem MapP.del (h : MapP w M m sz) {k : Nat} (hk : k < 2 ^ 64) (hs : (m k).isSome = true) (ty : TypeId) : ∃ w', (Builtin.delete_ #[66, 22] ty #[.map (some M), .int .u64 (k : Int)]).run Yba.prog w = .ok (.tuple #[]) w' ∧
    MapP w' M (fun x => if x = k then none else m x) (sz - 1) ∧ Outside [M] w w' := by
  obtain ⟨D, h3, h4, h5⟩ := h
  have hti := h3.tidy law22
  obtain ⟨w', hrun, hown, hg⟩ := h3.drop law22 Yba.underlying66 (key64 hk) ty
  have hsz : Maps.size (D.del (.int .u64 (k : Int))) = sz - 1 := by
    have := Maps.size_del (k := .int .u64 (k : Int)) hti
    rw [(h5 k hk).1, hs, h4] at this
    simp at this
    omega
  refine ⟨w', hrun, ⟨_, by have := ownsMap_tight hown; rw [hsz] at this; exact this, hsz, fun k' hk' => ?_⟩, Outside.of_grown hg.grown (by simp)⟩
  dsimp only
  by_cases he : k' = k
  · subst he
    rw [if_pos rfl, Maps.has_del_same, Maps.atKey_del_same]
    exact ⟨rfl, rfl⟩
  · have hne : (Lit.int .u64 (k' : Int)) ≠ Lit.int .u64 (k : Int) := by
      intro h
      injection h with _ h
      omega
    rw [if_neg he, Maps.has_del_other hne, Maps.atKey_del_other hne]
    exact h5 k' hk'
end

end Go.Proofs.Ybulkdukm
