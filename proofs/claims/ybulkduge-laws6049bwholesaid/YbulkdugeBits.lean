/-
  THE PLAIN LAW ON BITS: no Go in sight but the model's own 'bits' and 'wrap'.
-/
import Derived.Laws.BitsAllLaws
namespace Go.Proofs.Ybulkduge

def byteAt (s : ByteArray) (k : Nat) : Nat := (s.data.toList[k]?.getD 0).toNat
theorem byteAt_lt (s : ByteArray) (k : Nat) : byteAt s k < 256 := by
  unfold byteAt
  exact UInt8.toNat_lt _
theorem byteAt_get (s : ByteArray) (k : Nat) (h : k < s.size) : s[k].toNat = byteAt s k := by
  unfold byteAt
  have h' : k < s.data.toList.length := by simpa using h
  rw [List.getElem?_eq_getElem h']
  rfl

/-- The words behind the first k bytes: byte i is laid over byte i%8 of word i/8. -/
def orTo (s : ByteArray) (L : List Nat) : Nat → List Nat
  | 0 => L
  | k + 1 => (orTo s L k).set (k / 8) ((orTo s L k)[k / 8]?.getD 0 ||| byteAt s k * 2 ^ (8 * (k % 8)))

theorem orTo_length (s : ByteArray) (L : List Nat) (k : Nat) : (orTo s L k).length = L.length := by
  induction k with
  | zero => rfl
  | succ k ih => simp [orTo, ih]

theorem byte_shl_lt (c k : Nat) (hc : c < 256) : c * 2 ^ (8 * (k % 8)) < 2 ^ 64 := by
  have h1 : 2 ^ (8 * (k % 8)) ≤ 2 ^ 56 := Nat.pow_le_pow_right (by decide) (by omega)
  have h2 : c * 2 ^ (8 * (k % 8)) ≤ 255 * 2 ^ 56 := Nat.mul_le_mul (by omega) h1
  omega

theorem orTo_lt (s : ByteArray) (L : List Nat) (hL : ∀ x ∈ L, x < 2 ^ 64) (k : Nat) : ∀ x ∈ orTo s L k, x < 2 ^ 64 := by
  induction k with
  | zero => exact hL
  | succ k ih =>
    intro x hx
    simp only [orTo] at hx
    rcases List.mem_or_eq_of_mem_set hx with h | rfl
    · exact ih x h
    · refine Nat.or_lt_two_pow ?_ (byte_shl_lt _ _ (byteAt_lt s k))
      rcases h : (orTo s L k)[k / 8]? with _ | y
      · exact Nat.two_pow_pos 64
      · exact ih y (List.mem_of_getElem? h)

theorem getD_lt (L : List Nat) (hL : ∀ x ∈ L, x < 2 ^ 64) (i : Nat) : L[i]?.getD 0 < 2 ^ 64 := by
  rcases h : L[i]? with _ | y
  · exact Nat.two_pow_pos 64
  · exact hL y (List.mem_of_getElem? h)

/-- What the walk of 'orWords' writes is what 'orTo' says. -/
theorem or_byte (x c k : Nat) (hx : x < 2 ^ 64) (hc : c < 256) :
    bits .or .u64 (x : Int) (IntKind.u64.wrap (IntKind.u64.wrap (c : Int) * 2 ^ (8 * (k % 8)))) = ((x ||| c * 2 ^ (8 * (k % 8)) : Nat) : Int) := by
  have h1 : IntKind.u64.wrap (c : Int) = (c : Int) := by rw [IntKind.wrap_u64]; omega
  have h2 : (c : Int) * 2 ^ (8 * (k % 8)) = ((c * 2 ^ (8 * (k % 8)) : Nat) : Int) := by simp
  have hlt := byte_shl_lt c k hc
  have h3 : IntKind.u64.wrap (((c * 2 ^ (8 * (k % 8)) : Nat) : Int)) = ((c * 2 ^ (8 * (k % 8)) : Nat) : Int) := by
    rw [IntKind.wrap_u64]; omega
  rw [h1, h2, h3]
  exact u64_or_nat x _ (by omega) (by omega)

/-- Within byte k: behind its first b bits. -/
def midTo (s : ByteArray) (L : List Nat) (k b : Nat) : List Nat :=
  (orTo s L k).set (k / 8) ((orTo s L k)[k / 8]?.getD 0 ||| byteAt s k % 2 ^ b * 2 ^ (8 * (k % 8)))

theorem midTo_zero (s : ByteArray) (L : List Nat) (k : Nat) : midTo s L k 0 = orTo s L k := by
  unfold midTo
  have : byteAt s k % 2 ^ 0 = 0 := by simp [Nat.mod_one]
  rw [this]
  simp only [Nat.zero_mul, Nat.or_zero]
  apply List.ext_getElem?
  intro i
  rw [List.getElem?_set]
  split
  · subst_vars
    split
    · rename_i h; simp [h]
    · rename_i h; simp only [Nat.not_lt] at h; simp [h]
  · rfl

theorem midTo_eight (s : ByteArray) (L : List Nat) (k : Nat) : midTo s L k 8 = orTo s L (k + 1) := by
  unfold midTo
  rw [Nat.mod_eq_of_lt (show byteAt s k < 2 ^ 8 from byteAt_lt s k)]
  rfl

theorem midTo_length (s : ByteArray) (L : List Nat) (k b : Nat) : (midTo s L k b).length = L.length := by
  simp [midTo, orTo_length]

theorem midTo_lt (s : ByteArray) (L : List Nat) (hL : ∀ x ∈ L, x < 2 ^ 64) (k b : Nat) : ∀ x ∈ midTo s L k b, x < 2 ^ 64 := by
  intro x hx
  rcases List.mem_or_eq_of_mem_set hx with h | rfl
  · exact orTo_lt s L hL k x h
  · refine Nat.or_lt_two_pow (getD_lt _ (orTo_lt s L hL k) _) (byte_shl_lt _ _ ?_)
    exact Nat.lt_of_le_of_lt (Nat.mod_le _ _) (byteAt_lt s k)

/-- One bit more. -/
theorem mod_succ_or (c b r : Nat) : c % 2 ^ b * 2 ^ r ||| c / 2 ^ b % 2 * 2 ^ (r + b) = c % 2 ^ (b + 1) * 2 ^ r := by
  apply Nat.eq_of_testBit_eq
  intro i
  rw [Nat.testBit_or]
  simp only [Nat.testBit_mul_two_pow, Nat.testBit_mod_two_pow]
  by_cases h1 : r ≤ i
  · by_cases h2 : r + b ≤ i
    · by_cases h3 : i = r + b
      · subst h3
        simp only [h1, Nat.le_refl, decide_true, Bool.true_and, Nat.sub_self]
        have e : r + b - r = b := by omega
        rw [e]
        simp [Nat.testBit_eq_decide_div_mod_eq]
      · have : ¬ (i - r < b) := by omega
        have h4 : ¬ (i - r < b + 1) := by omega
        simp only [this, h4, decide_false, Bool.false_and, Bool.and_false, Bool.false_or, h2, decide_true, Bool.true_and]
        have h5 : c / 2 ^ b % 2 < 2 ^ 1 := by omega
        rw [Nat.testBit_lt_two_pow]
        exact Nat.lt_of_lt_of_le h5 (Nat.pow_le_pow_right (by decide) (by omega))
    · have h4 : i - r < b := by omega
      have h5 : i - r < b + 1 := by omega
      simp [h1, h2, h4, h5]
  · have : ¬ r + b ≤ i := by omega
    simp [h1, this]

theorem midTo_hit (s : ByteArray) (L : List Nat) (k b : Nat) (hk : k / 8 < L.length) (h : byteAt s k / 2 ^ b % 2 = 1) :
    (midTo s L k b).set (k / 8) ((midTo s L k b)[k / 8]?.getD 0 ||| 2 ^ (8 * (k % 8) + b)) = midTo s L k (b + 1) := by
  have hl := orTo_length s L k
  have e := mod_succ_or (byteAt s k) b (8 * (k % 8))
  rw [h, Nat.one_mul] at e
  unfold midTo
  rw [List.set_set, List.getElem?_set_self (by omega), Option.getD_some, Nat.or_assoc, e]

theorem midTo_miss (s : ByteArray) (L : List Nat) (k b : Nat) (h : ¬ byteAt s k / 2 ^ b % 2 = 1) : midTo s L k b = midTo s L k (b + 1) := by
  have e := mod_succ_or (byteAt s k) b (8 * (k % 8))
  rw [show byteAt s k / 2 ^ b % 2 = 0 by omega] at e
  simp only [Nat.zero_mul, Nat.or_zero] at e
  unfold midTo
  rw [e]

end Go.Proofs.Ybulkduge
