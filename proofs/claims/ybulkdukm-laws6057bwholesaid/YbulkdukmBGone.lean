/-
  'remove' AT THE GRAPH (law B).
-/
import Derived.Test.YbulkdukmBStep
namespace Go.Proofs.Ybulkdukm
open Go.RowKit
set_option linter.unusedVariables false

/-- A block of the graph's. -/
def SysB (L : Lay) (s : Sta) (x : Nat) : Prop := x = L.GB ∨ x = L.MB ∨ (∃ j, j < L.nk ∧ x = L.Qb j) ∨ (∃ j, j < L.nk ∧ x ∈ ownB (s.ao j) (s.cp j)) ∨ x ∈ ownB s.aoN s.cpN ∨ (∃ i, i < L.n ∧ (x = L.K i ∨ x = L.T i))
/-- Nothing but the graph has turned. -/
def Fr (L : Lay) (s : Sta) (w w' : World) : Prop := ∃ S, Outside S w w' ∧ ∀ x ∈ S, SysB L s x
theorem Fr.refl (L : Lay) (s : Sta) (w : World) : Fr L s w w := ⟨[], Outside.refl _ _, by simp⟩
theorem Fr.trans {L : Lay} {s s' : Sta} {a b c : World} (h : Fr L s a b) (k : Fr L s' b c) (hs : ∀ x, SysB L s' x → SysB L s x) : Fr L s a c := by
  obtain ⟨S, h1, h2⟩ := h
  obtain ⟨T, k1, k2⟩ := k
  exact ⟨S ++ T, (h1.mono (by simp +contextual)).trans (k1.mono (by simp +contextual)), fun x hx => by
    rcases List.mem_append.1 hx with e | e
    · exact h2 x e
    · exact hs x (k2 x e)⟩
theorem Fr.out {L : Lay} {s : Sta} {a b : World} (h : Outside [] a b) : Fr L s a b := ⟨[], h, by simp⟩
/-- A row of cells of another type stands. -/
theorem Fr.obj {L : Lay} {s : Sta} {w w' : World} (h : Fr L s w w') (hs : Sys w L s) {b : Nat} {cs : Array Value} {t : TypeId} {z : Nat × Nat} (hb : w.heap[b]? = some (.cells cs t z)) (ht : t ≠ 60 ∧ t ≠ 77 ∧ t ≠ 99 ∧ t ≠ 94 ∧ t ≠ 106 ∧ t ≠ 108) : w'.heap[b]? = some (.cells cs t z) := by
  obtain ⟨S, h1, h2⟩ := h
  refine h1.obj hb (fun hm => ?_)
  have own : ∀ {e : TypeId} {sz n c : Nat} {a : Option Addr} {xs : List Value}, Slc w e sz a n c xs → e ≠ t → b ∉ ownB a c := fun {e sz n c a xs} hsl hne hm => by
    have h0 : c ≠ 0 := by intro h0; simp [ownB, h0] at hm
    obtain ⟨g, off, cur, he, hh, _⟩ := hsl.at_ (by omega)
    simp only [ownB, h0, if_false, he] at hm
    simp at hm
    subst hm
    rw [hh] at hb
    simp at hb
    exact hne hb.2.1
  rcases h2 b hm with e | e | ⟨j, hj, e⟩ | ⟨j, hj, e⟩ | e | ⟨i, hi, e | e⟩
  · exact ne_tag hb hs.gs.g ht.2.1 e
  · exact hs.mp.ne hb e
  · exact ne_tag hb (hs.qs.q j hj) ht.1 e
  · exact own (hs.qs.s j hj) (fun e => ht.2.2.2.2.1 e.symm) e
  · exact own hs.gs.s (fun e => ht.2.2.2.2.2 e.symm) e
  · exact ne_tag hb (hs.ks.k i hi) ht.2.2.1 e
  · exact ne_tag hb (hs.ts.t i hi) ht.2.2.2.1 e

def goneW (s : Sta) (j p : Nat) : Sta := { s with wl := upd s.wl j (rmv (s.wl j) p 0), pos := if p = (s.wl j).length - 1 then s.pos else upd s.pos ((s.wl j).getD ((s.wl j).length - 1) 0) p }
def goneN (s : Sta) (p : Nat) : Sta := { s with nl := rmv s.nl p 0, qa := if p = s.nl.length - 1 then s.qa else upd s.qa (s.nl.getD (s.nl.length - 1) 0) p }

theorem rmv_map {α β : Type} (f : α → β) (l : List α) (p : Nat) (d : α) (d' : β) (h : 0 < l.length) : (rmv l p d).map f = rmv (l.map f) p d' := by
  unfold rmv
  rw [List.map_take, List.map_set]
  have h1 : l.length - 1 < l.length := by omega
  simp [List.getD, h1]
theorem upd_self {α : Type} (f : Nat → α) (i : Nat) : upd f i (f i) = f := by
  funext x
  unfold upd
  split
  · rename_i h; rw [h]
  · rfl

theorem remW_step {w : World} {L : Lay} {s : Sta} (h : Sys w L s) {i : Nat} (hi : i < L.n) (hj : L.nd i < L.nk) (hp : (s.wl (L.nd i))[s.pos i]? = some i) (hw : ∀ x ∈ s.wl (L.nd i), x < L.n) (hlen : (s.wl (L.nd i)).length ≤ 200000) :
    Calls Yba.prog 34 #[.pointer (some ⟨L.Qb (L.nd i), 40, none⟩), .pointer (some ⟨L.K i, 9, none⟩)] w fun e w' => e = .returned (.tuple #[]) ∧ Sys w' L (goneW s (L.nd i) (s.pos i)) ∧ Fr L s w w' := by
  have hpl := (List.getElem?_eq_some_iff.1 hp).1
  have hq := h.qs.q _ hj
  have hs := h.qs.s _ hj
  have hcap : 0 < s.cp (L.nd i) := by have := hs.2.1; omega
  obtain ⟨g, off, _, hao, _⟩ := hs.at_ hcap
  have hle : ((s.wl (L.nd i)).map (eW L.K)).length = (s.wl (L.nd i)).length := by simp
  have hown : ownB (s.ao (L.nd i)) (s.cp (L.nd i)) = [g] := by rw [hao, ownB_some hcap]
  have fin : ∀ (w' : World) (S : List Nat) (pos : Nat → Nat), (∀ x ∈ S, x = L.Qb (L.nd i) ∨ x ∈ ownB (s.ao (L.nd i)) (s.cp (L.nd i)) ∨ ∃ i, i < L.n ∧ x = L.K i) → Removed 106 w w' S (L.Qb (L.nd i)) 40 (qcells (s.ao (L.nd i)) (s.wl (L.nd i)).length (s.cp (L.nd i)) (s.qa (L.nd i))) 60 g off (s.cp (L.nd i)) ((s.wl (L.nd i)).map (eW L.K)) (eW L.K 0) (s.pos i) → KS w' L.n L.K L.T L.Nb L.nd pos →
      Sys w' L { s with wl := upd s.wl (L.nd i) (rmv (s.wl (L.nd i)) (s.pos i) 0), pos := pos } ∧ Fr L s w w' := fun w' S pos hS hR hk => by
    have e1 : ((rmv (s.wl (L.nd i)) (s.pos i) 0).map (eW L.K)) = rmv ((s.wl (L.nd i)).map (eW L.K)) (s.pos i) (eW L.K 0) := rmv_map _ _ _ _ _ (by omega)
    have e2 : (rmv (s.wl (L.nd i)) (s.pos i) 0).length = (s.wl (L.nd i)).length - 1 := rmv_len _ _ _
    have hl' := hR.list
    have hs' := hR.slc
    rw [qcells_40, hle] at hl'
    rw [hle] at hs'
    have k := h.setQ hj (l := rmv (s.wl (L.nd i)) (s.pos i) 0) (a' := s.ao (L.nd i)) (c' := s.cp (L.nd i)) S hR.out hS (by rw [e2, hao]; exact hl') (by rw [e2, e1, hao]; exact hs') (fun g hg => .inl hg) hk
    rw [upd_self, upd_self] at k
    exact ⟨k, S, hR.out, fun x hx => by
      rcases hS x hx with e | e | ⟨y, hy, e⟩
      · exact .inr (.inr (.inl ⟨_, hj, e⟩))
      · exact .inr (.inr (.inr (.inl ⟨_, hj, e⟩)))
      · exact .inr (.inr (.inr (.inr (.inr ⟨y, hy, .inl e⟩))))⟩
  rw [hao] at hs
  rw [← hle] at hs
  by_cases hl : s.pos i = (s.wl (L.nd i)).length - 1
  · refine (rem_w_last (L.Qb (L.nd i)) 40 (L.K i) 9 (s.cp (L.nd i)) g off ((s.wl (L.nd i)).map (eW L.K)) (eW L.K 0) _ _ 60 99 w hq (h.ks.k i hi) ?_ ?_ hs (by decide) (by omega) (by omega)).mono fun e w' ⟨he, hR⟩ => ⟨he, ?_⟩
    · rw [hle, ← hao]; rfl
    · rw [hle, ← hl]; rfl
    · unfold goneW
      rw [if_pos hl]
      have hR' := hR
      rw [hle, ← hl] at hR'
      refine fin w' _ s.pos (fun x hx => ?_) hR' (h.ks.outside hR.out (fun x hx => ?_))
      · rw [hown]
        simp at hx ⊢
        rcases hx with e | e
        · exact .inl e
        · exact .inr (.inl e)
      · simp
        have h1 := h.k_own hx hj
        rw [hown] at h1
        exact ⟨ne_tag (h.ks.k x hx) hq (by decide), by simpa using h1⟩
  · have hlt : s.pos i < (s.wl (L.nd i)).length - 1 := by omega
    have hml : (s.wl (L.nd i)).length - 1 < (s.wl (L.nd i)).length := by omega
    obtain ⟨x, hx⟩ : ∃ x, (s.wl (L.nd i))[(s.wl (L.nd i)).length - 1]? = some x := ⟨_, List.getElem?_eq_getElem hml⟩
    have hxn := hw x (List.mem_of_getElem? hx)
    refine (rem_w_mid (L.Qb (L.nd i)) 40 (L.K i) 9 (s.cp (L.nd i)) g off (s.pos i) ((s.wl (L.nd i)).map (eW L.K)) (eW L.K 0) (eW L.K x) _ _ _ 60 99 99 _ w hq (h.ks.k i hi) (h.ks.k x hxn) ?_ ?_ rfl hs ?_ (by omega) (by decide) (by decide) ?_ (by omega)).mono fun e w' ⟨he, hR, hK⟩ => ⟨he, ?_⟩
    · rw [hle, ← hao]; rfl
    · rfl
    · rw [hle, List.getElem?_map, hx]; rfl
    · exact ne_tag hq (h.ks.k x hxn) (by decide)
    · unfold goneW
      rw [if_neg hl]
      have hgd : (s.wl (L.nd i)).getD ((s.wl (L.nd i)).length - 1) 0 = x := by simp [List.getD, hx]
      rw [hgd]
      refine fin w' _ _ (fun y hy => ?_) hR (h.ks.setPos hR.out hxn (by rw [← wcells_9]; exact hK) (fun y hy hyx => ?_))
      · rw [hown]
        simp [eW] at hy ⊢
        rcases hy with e | e | e
        · exact .inl e
        · exact .inr (.inl e)
        · exact .inr (.inr ⟨x, hxn, e⟩)
      · simp [eW]
        have h1 := h.k_own hy hj
        rw [hown] at h1
        exact ⟨ne_tag (h.ks.k y hy) hq (by decide), by simpa using h1, fun e => hyx (h.ks.inj y x hy hxn e)⟩

theorem remN_step {w : World} {L : Lay} {s : Sta} (h : Sys w L s) {j : Nat} (hj : j < L.nk) (hp : s.nl[s.qa j]? = some j) (hw : ∀ x ∈ s.nl, x < L.nk) (hlen : s.nl.length ≤ 200000) :
    Calls Yba.prog 35 #[.pointer (some ⟨L.GB, 5, none⟩), .pointer (some ⟨L.Qb j, 41, none⟩)] w fun e w' => e = .returned (.tuple #[]) ∧ Sys w' L (goneN s (s.qa j)) ∧ Fr L s w w' := by
  have hpl := (List.getElem?_eq_some_iff.1 hp).1
  have hg := h.gs.g
  have hs := h.gs.s
  have hcap : 0 < s.cpN := by have := hs.2.1; omega
  obtain ⟨g, off, _, hao, _⟩ := hs.at_ hcap
  have hle : (s.nl.map (eN L.Nb L.Qb)).length = s.nl.length := by simp
  have hown : ownB s.aoN s.cpN = [g] := by rw [hao, ownB_some hcap]
  have fin : ∀ (w' : World) (S : List Nat) (qa : Nat → Nat), (∀ x ∈ S, x = L.GB ∨ x ∈ ownB s.aoN s.cpN ∨ ∃ j, j < L.nk ∧ x = L.Qb j) → Removed 108 w w' S L.GB 5 (gcells s.mu s.aoN s.nl.length s.cpN s.que L.MB) 77 g off s.cpN (s.nl.map (eN L.Nb L.Qb)) (eN L.Nb L.Qb 0) (s.qa j) → QS w' L.nk L.Qb L.K s.wl s.ao s.cp qa →
      Sys w' L { s with nl := rmv s.nl (s.qa j) 0, qa := qa } ∧ Fr L s w w' := fun w' S qa hS hR hk => by
    have e1 : ((rmv s.nl (s.qa j) 0).map (eN L.Nb L.Qb)) = rmv (s.nl.map (eN L.Nb L.Qb)) (s.qa j) (eN L.Nb L.Qb 0) := rmv_map _ _ _ _ _ (by omega)
    have e2 : (rmv s.nl (s.qa j) 0).length = s.nl.length - 1 := rmv_len _ _ _
    have hl' := hR.list
    have hs' := hR.slc
    rw [gcells_5, hle] at hl'
    rw [hle] at hs'
    have k := h.setN (l := rmv s.nl (s.qa j) 0) (a' := s.aoN) (c' := s.cpN) S hR.out hS (by rw [e2, hao]; exact hl') (by rw [e2, e1, hao]; exact hs') hk
    exact ⟨k, S, hR.out, fun x hx => by
      rcases hS x hx with e | e | ⟨y, hy, e⟩
      · exact .inl e
      · exact .inr (.inr (.inr (.inr (.inl e))))
      · exact .inr (.inr (.inl ⟨y, hy, e⟩))⟩
  rw [hao] at hs
  rw [← hle] at hs
  by_cases hl : s.qa j = s.nl.length - 1
  · refine (rem_n_last L.GB 5 (L.Qb j) 41 s.cpN g off (s.nl.map (eN L.Nb L.Qb)) (eN L.Nb L.Qb 0) _ _ 77 60 w hg (h.qs.q j hj) ?_ ?_ hs (by decide) (by omega) (by omega)).mono fun e w' ⟨he, hR⟩ => ⟨he, ?_⟩
    · rw [hle, ← hao]; rfl
    · rw [hle, ← hl]; rfl
    · unfold goneN
      rw [if_pos hl]
      have hR' := hR
      rw [hle, ← hl] at hR'
      refine fin w' _ s.qa (fun x hx => ?_) hR' (h.qs.outside hR.out (fun x hx => ?_) (fun x hx y hy => ?_))
      · rw [hown]
        simp at hx ⊢
        rcases hx with e | e
        · exact .inl e
        · exact .inr (.inl e)
      · simp
        have h1 := h.qb_on hx
        rw [hown] at h1
        exact ⟨ne_tag (h.qs.q x hx) hg (by decide), by simpa using h1⟩
      · simp
        have h1 := h.own_on hx y hy
        rw [hown] at h1
        exact ⟨by rintro rfl; exact h.gb_own hx hy, by simpa using h1⟩
  · have hlt : s.qa j < s.nl.length - 1 := by omega
    have hml : s.nl.length - 1 < s.nl.length := by omega
    obtain ⟨x, hx⟩ : ∃ x, s.nl[s.nl.length - 1]? = some x := ⟨_, List.getElem?_eq_getElem hml⟩
    have hxn := hw x (List.mem_of_getElem? hx)
    refine (rem_n_mid L.GB 5 (L.Qb j) 41 s.cpN g off (s.qa j) (s.nl.map (eN L.Nb L.Qb)) (eN L.Nb L.Qb 0) (eN L.Nb L.Qb x) _ _ _ 77 60 60 _ w hg (h.qs.q j hj) (h.qs.q x hxn) ?_ ?_ rfl hs ?_ (by omega) (by decide) (by decide) ?_ (by omega)).mono fun e w' ⟨he, hR, hK⟩ => ⟨he, ?_⟩
    · rw [hle, ← hao]; rfl
    · rfl
    · rw [hle, List.getElem?_map, hx]; rfl
    · exact ne_tag hg (h.qs.q x hxn) (by decide)
    · unfold goneN
      rw [if_neg hl]
      have hgd : s.nl.getD (s.nl.length - 1) 0 = x := by simp [List.getD, hx]
      rw [hgd]
      refine fin w' _ _ (fun y hy => ?_) hR (h.qs.setAt hR.out hxn (by rw [← qcells_41]; exact hK) (fun y hy hyx => ?_) (fun y hy u hu => ?_))
      · rw [hown]
        simp [eN] at hy ⊢
        rcases hy with e | e | e
        · exact .inl e
        · exact .inr (.inl e)
        · exact .inr (.inr ⟨x, hxn, e⟩)
      · simp [eN]
        have h1 := h.qb_on hy
        rw [hown] at h1
        exact ⟨ne_tag (h.qs.q y hy) hg (by decide), by simpa using h1, fun e => hyx (h.qs.inj y x hy hxn e)⟩
      · simp [eN]
        have h1 := h.own_on hy u hu
        rw [hown] at h1
        exact ⟨by rintro rfl; exact h.gb_own hy hu, by simpa using h1, by rintro rfl; exact h.qb_own hxn hy hu⟩

end Go.Proofs.Ybulkdukm
