/-
  THE LAW's STATE: the list at L and the plain slice (ao, cap) hold the same messages 'ms', in memory apart from each other.
-/
import Derived.Test.YbulkdugeListOf
import Derived.Test.YbulkdugeEq
namespace Go.Proofs.Ybulkduge
open Go.RowKit
set_option linter.unusedVariables false

structure Inv (w0 w : World) (L BS stop : Nat) (F : List Nat) (c : Nat) (ms : List Msg) (ao : Option Addr) (cap : Nat) : Prop where
  ll : LL w L F c ms
  sl : Slc w 26 4 ao ms.length cap (flat ms)
  apart : ∀ g ∈ ownB ao cap, g ∉ F
  own0 : ∀ g ∈ ownB ao cap, w0.heap.size ≤ g
  f0 : ∀ g ∈ F, w0.heap.size ≤ g
  bs : w.heap[BS]? = some (.cells #[.int .u8 stop] 5 (0, 0))
  bsF : BS ∉ F
  bel : Below w0.heap.size w0 w
  len : ms.length ≤ c

section
variable {w0 w w1 w2 : World} {L BS stop : Nat} {F : List Nat} {c : Nat} {ms : List Msg} {ao : Option Addr} {cap : Nat}

theorem Inv.lt0 (h : Inv w0 w L BS stop F c ms ao cap) : w0.heap.size ≤ w.heap.size := h.bel.size
theorem Inv.bsO (h : Inv w0 w L BS stop F c ms ao cap) : BS ∉ ownB ao cap := h.sl.not_own h.bs (by decide)

theorem Inv.grow (h : Inv w0 w L BS stop F c ms ao cap) (ho : Outside [] w w1) : Inv w0 w1 L BS stop F c ms ao cap where
  ll := h.ll.outside ho (by simp)
  sl := h.sl.outside ho (by simp)
  apart := h.apart
  own0 := h.own0
  f0 := h.f0
  bs := ho.obj h.bs (by simp)
  bsF := h.bsF
  bel := ho.below h.bel h.lt0 (by simp)
  len := h.len

theorem Inv.alloc (h : Inv w0 w L BS stop F c ms ao cap) (o : Obj) : Inv w0 (w.alloc o) L BS stop F c ms ao cap := h.grow ((Outside.refl [] w).alloc o)

/-- Behind a call on the list, where the slice is then written within its own memory (or moves). -/
theorem Inv.next {c' : Nat} {ms' : List Msg} {ao' : Option Addr} {cap' : Nat} (h : Inv w0 w L BS stop F c ms ao cap) (ht : Turned w w1 L F c' ms') (ho : Outside (ownB ao cap) w1 w2) (hs : Slc w2 26 4 ao' ms'.length cap' (flat ms')) (how : ∀ g ∈ ownB ao' cap', g ∈ ownB ao cap ∨ w1.heap.size ≤ g) (hc : ms'.length ≤ c') :
    ∃ F', Inv w0 w2 L BS stop F' c' ms' ao' cap' ∧ (∀ k ∈ F', k ∈ F ∨ w.heap.size ≤ k) := by
  obtain ⟨F', t1, t2, t3⟩ := ht
  have hz := h.lt0
  have hz1 := t2.size
  have hnew : ∀ g ∈ ownB ao cap, g ∉ F' := fun g hg hm => by
    rcases t3 g hm with h1 | h1
    · exact h.apart g hg h1
    · have := h.sl.lt g hg; omega
  have hbs1 : w1.heap[BS]? = some (.cells #[.int .u8 stop] 5 (0, 0)) := t2.obj h.bs h.bsF
  refine ⟨F', ?_, t3⟩
  exact
  { ll := t1.outside ho (fun k hk hm => hnew k hm hk)
    sl := hs
    apart := fun g hg hm => by
      rcases how g hg with h1 | h1
      · exact hnew g h1 hm
      · have := t1.lt g hm; omega
    own0 := fun g hg => by
      rcases how g hg with h1 | h1
      · exact h.own0 g h1
      · omega
    f0 := fun g hg => by
      rcases t3 g hg with h1 | h1
      · exact h.f0 g h1
      · omega
    bs := ho.obj hbs1 h.bsO
    bsF := fun hm => by
      rcases t3 BS hm with h1 | h1
      · exact h.bsF h1
      · have := lt_of_block h.bs; omega
    bel := ho.below (t2.below h.bel hz h.f0) (by omega) h.own0
    len := hc }

/-- The slice as it stood, behind a call on the list. -/
theorem Inv.slice {c' : Nat} {ms' : List Msg} (h : Inv w0 w L BS stop F c ms ao cap) (ht : Turned w w1 L F c' ms') : Slc w1 26 4 ao ms.length cap (flat ms) := by
  obtain ⟨F', t1, t2, t3⟩ := ht
  exact h.sl.outside t2 h.apart

theorem Inv.push {o : Obj} {m : Msg} {ao' : Option Addr} {cap' : Nat} (h : Inv w0 w L BS stop F c ms ao cap) (ht : Turned w w1 L F (c + 1) (ms ++ [m])) (hs : Slc w2 26 4 ao' (ms.length + 1) cap' (flat ms ++ mc m)) (ho : Outside (ownB ao cap) (w1.alloc o) w2) (how : ∀ g ∈ ownB ao' cap', g ∈ ownB ao cap ∨ (w1.alloc o).heap.size ≤ g) :
    ∃ F', Inv w0 w2 L BS stop F' (c + 1) (ms ++ [m]) ao' cap' ∧ (∀ k ∈ F', k ∈ F ∨ w.heap.size ≤ k) := by
  refine h.next ht (((Outside.refl _ w1).alloc o).trans ho) (by rw [flat_snoc] at hs; simpa using hs) (fun g hg => ?_) (by simp; exact h.len)
  rcases how g hg with h1 | h1
  · exact .inl h1
  · exact .inr (by simp at h1; omega)

theorem Inv.pop {g off : Nat} (h : Inv w0 w L BS stop F c ms (some ⟨g, off, none⟩) cap) (ht : Turned w w1 L F (c + 1) ms.tail) (h0 : 1 ≤ ms.length) :
    ∃ F', Inv w0 w1 L BS stop F' (c + 1) ms.tail (cutA g off 4 cap 1) (cap - 1) ∧ (∀ k ∈ F', k ∈ F ∨ w.heap.size ≤ k) := by
  have hcap := h.sl.2.1
  have hs := (h.slice ht).back (by omega) 1 h0
  rw [Nat.one_mul] at hs
  have e : (flat ms).drop 4 = flat ms.tail := by
    have := flat_drop ms 1
    rw [Nat.one_mul] at this
    rw [this, List.drop_one]
  rw [e] at hs
  refine h.next ht (Outside.refl _ w1) (by simpa using hs) (fun x hx => .inl ?_) (by have := h.len; simp; omega)
  have := ownB_cutA (g := g) (off := off) (size := 4) (cap := cap) 1 (by omega) x hx
  subst this
  rw [ownB_some (by omega)]
  simp

theorem Slc.st {g off n cap : Nat} {ms : List Msg} (h : Slc w 26 4 (some ⟨g, off, none⟩) n cap (flat ms)) (hn : ms.length = n) (i : Nat) (hi : i < n) (m : Msg) :
    Slc ((((w.setCell ⟨g, off + i * 4, none⟩ (.int .i64 m.1)).setCell ⟨g, off + i * 4 + 1, none⟩ (.int .i64 m.2.1)).setCell ⟨g, off + i * 4 + 2, none⟩ (.int .i64 m.2.2)).setCell ⟨g, off + i * 4 + 3, none⟩ .nilIface) 26 4 (some ⟨g, off, none⟩) n cap (flat (ms.set i m)) := by
  have hc := h.2.1
  have h1 := (((h.set (by omega) (i * 4) (by omega) (.int .i64 m.1)).set (by omega) (i * 4 + 1) (by omega) (.int .i64 m.2.1)).set (by omega) (i * 4 + 2) (by omega) (.int .i64 m.2.2)).set (by omega) (i * 4 + 3) (by omega) .nilIface
  rw [flat_set] at h1
  exact h1

theorem Inv.take {g off i : Nat} {m : Msg} (h : Inv w0 w L BS stop F c ms (some ⟨g, off, none⟩) cap) (hm : m = ms[ms.length - 1]?.getD zeroM) (ht : Turned w w1 L F c ((ms.set i m).take (ms.length - 1))) (hi : i < ms.length) :
    ∃ F', Inv w0 ((((w1.setCell ⟨g, off + i * 4, none⟩ (.int .i64 m.1)).setCell ⟨g, off + i * 4 + 1, none⟩ (.int .i64 m.2.1)).setCell ⟨g, off + i * 4 + 2, none⟩ (.int .i64 m.2.2)).setCell ⟨g, off + i * 4 + 3, none⟩ .nilIface) L BS stop F' c ((ms.set i m).take (ms.length - 1)) (some ⟨g, off, none⟩) cap ∧ (∀ k ∈ F', k ∈ F ∨ w.heap.size ≤ k) := by
  have hcap := h.sl.2.1
  have hs := ((h.slice ht).st rfl i hi m).front (ms.length - 1) (by omega)
  rw [flat_take] at hs
  have hg : g ∈ ownB (some ⟨g, off, none⟩) cap := by rw [ownB_some (by omega)]; simp
  have hl : ((ms.set i m).take (ms.length - 1)).length = ms.length - 1 := by simp
  refine h.next ht ((((((Outside.refl _ w1).setCell g _ (.inl hg) _).setCell g _ (.inl hg) _).setCell g _ (.inl hg) _).setCell g _ (.inl hg) _)) (by rw [hl]; exact hs) (fun x hx => .inl hx) (by rw [hl]; have := h.len; omega)

/-- The iteration's start: the variable that gathers, and the boxed receiver. -/
theorem Inv.iter0 (h : Inv w0 w L BS stop F c ms ao cap) :
    Iter ((w.alloc (.cells #[.slice none 0 0] 24)).alloc (.cells #[.pointer (some ⟨L, 0, none⟩)] 76)) ((w.alloc (.cells #[.slice none 0 0] 24)).alloc (.cells #[.pointer (some ⟨L, 0, none⟩)] 76)) L F c ms w.heap.size (w.heap.size + 1) [] := by
  refine ⟨none, 0, ⟨?_, Slc.nil _ _ _ _, by simp [ownB]⟩, ((h.alloc _).alloc _).ll, ?_, Below.refl _ _⟩
  · rw [Below.heap_alloc _ _ _ (by simp)]
    exact heap_alloc_new w _
  · have := heap_alloc_new (w.alloc (.cells #[.slice none 0 0] 24)) (.cells #[.pointer (some ⟨L, 0, none⟩)] 76)
    simpa using this

theorem Inv.below {B : Nat} (h : Inv w0 w L BS stop F c ms ao cap) (hb : Below B w w1) (hB : w.heap.size ≤ B) : Inv w0 w1 L BS stop F c ms ao cap := by
  have hz := h.lt0
  exact
  { ll := h.ll.below hb (fun k hk => by have := h.ll.lt k hk; omega)
    sl := h.sl.of_block fun g hg => hb.block g (by have := h.sl.lt g hg; omega)
    apart := h.apart
    own0 := h.own0
    f0 := h.f0
    bs := by rw [hb.block BS (by have := lt_of_block h.bs; omega)]; exact h.bs
    bsF := h.bsF
    bel := h.bel.trans (hb.mono (by omega))
    len := h.len }

/-- Behind the iteration. -/
theorem Inv.iter1 {gs : List Msg} {BP : Nat} (h : Inv w0 w L BS stop F c ms ao cap) (hi : Iter ((w.alloc (.cells #[.slice none 0 0] 24)).alloc (.cells #[.pointer (some ⟨L, 0, none⟩)] 76)) w1 L F c ms w.heap.size BP gs) :
    Inv w0 w1 L BS stop F c ms ao cap ∧ ∃ ao' cap', w1.heap[w.heap.size]? = some (.cells #[.slice ao' gs.length cap'] 24 (0, 0)) ∧ Slc w1 26 4 ao' gs.length cap' (flat gs) := by
  obtain ⟨ao', cap', g1, g2, g3, g4⟩ := hi
  refine ⟨h.below (B := w.heap.size) ((((Below.refl _ w).alloc (Nat.le_refl _) _).alloc (by simp) _).trans g4) (Nat.le_refl _), ao', cap', g1.1, g1.2.1⟩

end

end Go.Proofs.Ybulkduge
