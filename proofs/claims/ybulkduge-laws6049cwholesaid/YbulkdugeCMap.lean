/-
  A map[uint64]bool OF THE CALL's OWN, AS THE LIST OF ITS ENTRIES (law C).
-/
import Derived.Test.YbulkdugeCPlain
import Derived.Test.YbulkdugeLocks
import Derived.Maps.OwnSet
namespace Go.Proofs.Ybulkduge
open Go.RowKit Go.Maps
set_option linter.unusedVariables false

theorem law46 : Keyed Yba.prog 46 := int_keyed Yba.underlying46
theorem zero4 (w : World) : (zeroValue 4).run Yba.prog w = .ok (.bool false) w := by kernel_rfl

theorem wf_u64 {k : Nat} (hk : k < 2 ^ 64) : (Lit.int .u64 (k : Int)).wf = true := by
  simp [Lit.wf, IntKind.min, IntKind.max, IntKind.signed, IntKind.bits]
  omega
theorem key64 {k : Nat} (hk : k < 2 ^ 64) : keyOf Yba.prog 46 (.int .u64 (k : Int)) = some (.int .u64 (k : Int)) := keyOf_int_mk Yba.underlying46 (wf_u64 hk)

theorem plainElem_bool_inv {H : Type} {P : Program} {e : TypeId} (he : P.underlying e = some .bool) {v : Value} {z : DataW H × List MemPlace} (h : plainElem P e v = some z) : ∃ x, v = .bool x ∧ z = (.lit (.bool x), []) := by
  unfold plainElem at h
  rw [he] at h
  cases v <;> simp at h
  exact ⟨_, rfl, h.symm⟩

theorem ownsMap_tight {H : Type} {P : Program} {k : TypeId} {R : Value → Option (DataW H × List MemPlace)} {w : World} {b n : Nat} {D : DataW H} (h : w.ownsMap P k R b n D) : w.ownsMap P k R b (Maps.size D) D := by
  obtain ⟨es, clock, hb, F, hs, rfl⟩ := h
  exact ⟨es, clock, hb, F, by simp [Maps.size, length_sorted], rfl⟩

/-- Block M is a map of just these entries. -/
def MapB (w : World) (M : Nat) (es : List Ent) : Prop :=
  Keys1 es ∧ KeysLt es ∧ ∃ D : DataW Unit, w.ownsMap Yba.prog 46 (plainElem Yba.prog 4) M es.length D ∧ Maps.size D = es.length ∧
    ∀ k : Nat, k < 2 ^ 64 → Maps.has D (.int .u64 (k : Int)) = (lookE es k).isSome ∧ D.atKey (.int .u64 (k : Int)) (.lit (.bool false)) = .lit (.bool ((lookE es k).getD false))

section
variable {w w' : World} {M : Nat} {es : List Ent}

theorem MapB.lt (h : MapB w M es) : M < w.heap.size := by obtain ⟨_, _, D, h1, _⟩ := h; exact h1.lt
theorem MapB.of_block (h : MapB w M es) (hb : w'.heap[M]? = w.heap[M]?) : MapB w' M es := by
  obtain ⟨h1, h2, D, ⟨es', clock, hb', r⟩, h4⟩ := h
  exact ⟨h1, h2, D, ⟨es', clock, by rw [hb]; exact hb', r⟩, h4⟩
theorem MapB.outside {S : List Nat} (h : MapB w M es) (ho : Outside S w w') (hn : M ∉ S) : MapB w' M es := h.of_block (ho.block M h.lt hn)
/-- It is no row of cells. -/
theorem MapB.ne {b : Nat} {cs : Array Value} {t : TypeId} {z : Nat × Nat} (h : MapB w M es) (hb : w.heap[b]? = some (.cells cs t z)) : b ≠ M := by
  intro he
  subst he
  obtain ⟨h1, h2, D, ⟨es', clock, hb', r⟩, h4⟩ := h
  rw [hb'] at hb
  cases hb
theorem MapB.not_own {e : TypeId} {size : Nat} {ao : Option Addr} {n cap : Nat} {xs : List Value} (h : MapB w M es) (hs : Slc w e size ao n cap xs) : M ∉ ownB ao cap := by
  intro hm
  have h0 : cap ≠ 0 := by intro h0; simp [ownB, h0] at hm
  obtain ⟨g, off, cur, he, hh, _⟩ := hs.at_ (by omega)
  simp only [ownB, h0, if_false, he] at hm
  simp at hm
  subst hm
  exact h.ne hh rfl

theorem MapB.made (w : World) : MapB (w.alloc (.map #[] 0)) w.heap.size [] := by
  refine ⟨by simp [Keys1], by simp [KeysLt], .map [], World.ownsMap_made w _ _ _, rfl, fun k hk => ⟨rfl, rfl⟩⟩

theorem MapB.look (h : MapB w M es) {k : Nat} (hk : k < 2 ^ 64) : (Instr.lookup 71 (.map (some M)) (.int .u64 (k : Int)) true).run Yba.prog w = .ok (.tuple #[.bool ((lookE es k).getD false), .bool (lookE es k).isSome]) w := by
  obtain ⟨h1, h2, D, h3, h4, h5⟩ := h
  obtain ⟨v, ps, hrun, hv⟩ := h3.look_ok law46 Yba.underlying71 (zero4 w) (plainElem_bool Yba.underlying4 false) (key64 hk)
  obtain ⟨x, rfl, hx⟩ := plainElem_bool_inv Yba.underlying4 hv
  have e1 := congrArg Prod.fst hx
  simp only at e1
  rw [(h5 k hk).2] at e1
  cases e1
  rw [hrun, (h5 k hk).1]

theorem MapB.len (h : MapB w M es) (ty : TypeId) : (Builtin.len_ #[71] ty #[.map (some M)]).run Yba.prog w = .ok (.int .i64 (es.length : Int)) w := by
  obtain ⟨h1, h2, D, h3, h4, h5⟩ := h
  rw [h3.len Yba.underlying71 ty, h4]

theorem MapB.put (h : MapB w M es) {k : Nat} (hk : k < 2 ^ 64) (f : Bool) (hm : es.length < maxLen) : ∃ w', (Instr.mapUpdate 71 (.map (some M)) (.int .u64 (k : Int)) (.bool f)).run Yba.prog w = .ok () w' ∧ MapB w' M (setE es k f) ∧ Outside [M] w w' := by
  obtain ⟨h1, h2, D, h3, h4, h5⟩ := h
  have hti := h3.tidy law46
  have him := h3.isMap
  have hik : WideAt.IsKeyLit (Lit.int .u64 (k : Int)) := law46.key (key64 hk)
  obtain ⟨w', hrun, hown, hg⟩ := h3.update law46 Yba.underlying71 hm (key64 hk) (plainElem_bool Yba.underlying4 f)
  have hsz : Maps.size (D.put (.int .u64 (k : Int)) (.lit (.bool f))) = (setE es k f).length := by
    rw [Maps.size_put hti, (h5 k hk).1, setE_length, h4]
  refine ⟨w', hrun, ⟨setE_keys1 h1, setE_lt hk h2, _, by have := ownsMap_tight hown; rw [hsz] at this; exact this, hsz, fun k' hk' => ?_⟩, Outside.of_grown hg (by simp)⟩
  rw [look_setE h1]
  by_cases he : k' = k
  · subst he
    rw [if_pos rfl, Maps.has_put_same him hik, Maps.atKey_put_same him hik]
    exact ⟨rfl, rfl⟩
  · have hne : (Lit.int .u64 (k' : Int)) ≠ Lit.int .u64 (k : Int) := by
      intro h
      injection h with _ h
      omega
    rw [if_neg he, Maps.has_put_other hne, Maps.atKey_put_other hne]
    exact h5 k' hk'

theorem MapB.del (h : MapB w M es) {j k : Nat} {f : Bool} (hj : es[j]? = some (k, f)) (ty : TypeId) : ∃ w', (Builtin.delete_ #[71, 46] ty #[.map (some M), .int .u64 (k : Int)]).run Yba.prog w = .ok (.tuple #[]) w' ∧ MapB w' M (es.eraseIdx j) ∧ Outside [M] w w' := by
  obtain ⟨h1, h2, D, h3, h4, h5⟩ := h
  have hk : k < 2 ^ 64 := h2 (k, f) (List.mem_of_getElem? hj)
  have hjl := (List.getElem?_eq_some_iff.1 hj).1
  have hti := h3.tidy law46
  obtain ⟨w', hrun, hown, hg⟩ := h3.drop law46 Yba.underlying71 (key64 hk) ty
  have hsz : Maps.size (D.del (.int .u64 (k : Int))) = (es.eraseIdx j).length := by
    have := Maps.size_del (k := .int .u64 (k : Int)) hti
    rw [(h5 k hk).1, look_of h1 hj, h4] at this
    simp at this
    rw [List.length_eraseIdx_of_lt hjl]
    omega
  refine ⟨w', hrun, ⟨erase_keys1 h1 j, erase_lt h2 j, _, by have := ownsMap_tight hown; rw [hsz] at this; exact this, hsz, fun k' hk' => ?_⟩, Outside.of_grown hg.grown (by simp)⟩
  rw [look_erase h1 hj]
  by_cases he : k' = k
  · subst he
    rw [if_pos rfl, Maps.has_del_same, Maps.atKey_del_same]
    exact ⟨rfl, rfl⟩
  · have hne : (Lit.int .u64 (k' : Int)) ≠ Lit.int .u64 (k : Int) := by
      intro h
      injection h with _ h
      omega
    rw [if_neg he, Maps.has_del_other hne, Maps.atKey_del_other hne]
    exact h5 k' hk'
end

end Go.Proofs.Ybulkduge
