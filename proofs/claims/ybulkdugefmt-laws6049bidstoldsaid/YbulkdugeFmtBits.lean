/-
  THE PLAIN LAW ON BITS: no Go in sight but the model's own 'bits' and 'wrap'.
-/
import Derived.Laws.BitsAllLaws
namespace Go.Proofs.YbulkdugeFmt

def byteAt (s : ByteArray) (k : Nat) : Nat := (s.data.toList[k]?.getD 0).toNat
theorem byteAt_lt (s : ByteArray) (k : Nat) : byteAt s k < 256 := by
  unfold byteAt
  exact UInt8.toNat_lt _
theorem byteAt_get (s : ByteArray) (k : Nat) (h : k < s.size) : s[k].toNat = byteAt s k := by
  unfold byteAt
  have h' : k < s.data.toList.length := by simpa using h
  rw [List.getElem?_eq_getElem h']
  rfl

/-- The words behind the first k bytes: byte i is laid over byte i%8 of word i/8. -/
def orTo (s : ByteArray) (L : List Nat) : Nat → List Nat
  | 0 => L
  | k + 1 => (orTo s L k).set (k / 8) ((orTo s L k)[k / 8]?.getD 0 ||| byteAt s k * 2 ^ (8 * (k % 8)))

theorem orTo_length (s : ByteArray) (L : List Nat) (k : Nat) : (orTo s L k).length = L.length := by
  induction k with
  | zero => rfl
  | succ k ih => simp [orTo, ih]

theorem byte_shl_lt (c k : Nat) (hc : c < 256) : c * 2 ^ (8 * (k % 8)) < 2 ^ 64 := by
  have h1 : 2 ^ (8 * (k % 8)) ≤ 2 ^ 56 := Nat.pow_le_pow_right (by decide) (by omega)
  have h2 : c * 2 ^ (8 * (k % 8)) ≤ 255 * 2 ^ 56 := Nat.mul_le_mul (by omega) h1
  omega

theorem orTo_lt (s : ByteArray) (L : List Nat) (hL : ∀ x ∈ L, x < 2 ^ 64) (k : Nat) : ∀ x ∈ orTo s L k, x < 2 ^ 64 := by
  induction k with
  | zero => exact hL
  | succ k ih =>
    intro x hx
    simp only [orTo] at hx
    rcases List.mem_or_eq_of_mem_set hx with h | rfl
    · exact ih x h
    · refine Nat.or_lt_two_pow ?_ (byte_shl_lt _ _ (byteAt_lt s k))
      rcases h : (orTo s L k)[k / 8]? with _ | y
      · exact Nat.two_pow_pos 64
      · exact ih y (List.mem_of_getElem? h)

theorem getD_lt (L : List Nat) (hL : ∀ x ∈ L, x < 2 ^ 64) (i : Nat) : L[i]?.getD 0 < 2 ^ 64 := by
  rcases h : L[i]? with _ | y
  · exact Nat.two_pow_pos 64
  · exact hL y (List.mem_of_getElem? h)

/-- What the walk of 'orWords' writes is what 'orTo' says. -/
theorem or_byte (x c k : Nat) (hx : x < 2 ^ 64) (hc : c < 256) :
    bits .or .u64 (x : Int) (IntKind.u64.wrap (IntKind.u64.wrap (c : Int) * 2 ^ (8 * (k % 8)))) = ((x ||| c * 2 ^ (8 * (k % 8)) : Nat) : Int) := by
  have h1 : IntKind.u64.wrap (c : Int) = (c : Int) := by rw [IntKind.wrap_u64]; omega
  have h2 : (c : Int) * 2 ^ (8 * (k % 8)) = ((c * 2 ^ (8 * (k % 8)) : Nat) : Int) := by simp
  have hlt := byte_shl_lt c k hc
  have h3 : IntKind.u64.wrap (((c * 2 ^ (8 * (k % 8)) : Nat) : Int)) = ((c * 2 ^ (8 * (k % 8)) : Nat) : Int) := by
    rw [IntKind.wrap_u64]; omega
  rw [h1, h2, h3]
  exact u64_or_nat x _ (by omega) (by omega)

/-- What 'orTo' has at bit t of word j. -/
theorem orTo_bit (s : ByteArray) (L : List Nat) (k j t : Nat) (hk : (k + 7) / 8 ≤ L.length) (ht : t < 64) :
    ((orTo s L k)[j]?.getD 0).testBit t = ((L[j]?.getD 0).testBit t || (decide (8 * j + t / 8 < k) && (byteAt s (8 * j + t / 8)).testBit (t % 8))) := by
  induction k with
  | zero => simp [orTo]
  | succ k ih =>
    have ih := ih (by omega)
    have hl := orTo_length s L k
    simp only [orTo]
    by_cases hj : k / 8 = j
    · subst hj
      rw [List.getElem?_set_self (by omega), Option.getD_some, Nat.testBit_or, ih, Bool.or_assoc]
      congr 1
      rw [Nat.testBit_mul_two_pow]
      by_cases h1 : t / 8 = k % 8
      · have e1 : 8 * (k / 8) + t / 8 = k := by omega
        have e2 : t - 8 * (k % 8) = t % 8 := by omega
        have e3 : 8 * (k % 8) ≤ t := by omega
        rw [e1, e2]
        simp [e3]
      · have e0 : decide (8 * (k / 8) + t / 8 < k + 1) = decide (8 * (k / 8) + t / 8 < k) := by
          apply decide_eq_decide.2; omega
        rw [e0]
        by_cases h2 : 8 * (k % 8) ≤ t
        · have h3 : (byteAt s k).testBit (t - 8 * (k % 8)) = false := by
            refine Nat.testBit_lt_two_pow (Nat.lt_of_lt_of_le (byteAt_lt s k) ?_)
            exact Nat.pow_le_pow_right (n := 2) (i := 8) (by decide) (by omega)
          simp [h3]
        · simp [h2]
    · rw [List.getElem?_set_ne hj, ih]
      have e0 : decide (8 * j + t / 8 < k + 1) = decide (8 * j + t / 8 < k) := by
        apply decide_eq_decide.2; omega
      rw [e0]

/-- The bits of the ids laid one by one, W bits a cell. -/
def bitsTo (W : Nat) (L : List Nat) : List Nat → List Nat
  | [] => L
  | id :: I => bitsTo W (L.set ((id - 1) / W) (L[(id - 1) / W]?.getD 0 ||| 2 ^ ((id - 1) % W))) I

theorem bitsTo_length (W : Nat) (I L : List Nat) : (bitsTo W L I).length = L.length := by
  induction I generalizing L with
  | nil => rfl
  | cons id I ih => simp [bitsTo, ih]

theorem bitsTo_snoc (W : Nat) (I L : List Nat) (id : Nat) : bitsTo W L (I ++ [id]) = (bitsTo W L I).set ((id - 1) / W) ((bitsTo W L I)[(id - 1) / W]?.getD 0 ||| 2 ^ ((id - 1) % W)) := by
  induction I generalizing L with
  | nil => rfl
  | cons x I ih => simp only [List.cons_append, bitsTo]; exact ih _

theorem bitsTo_bit (W : Nat) (hW : 0 < W) (I L : List Nat) (j t : Nat) (hj : j < L.length) (ht : t < W) :
    ((bitsTo W L I)[j]?.getD 0).testBit t = ((L[j]?.getD 0).testBit t || I.any fun id => id - 1 == W * j + t) := by
  induction I generalizing L with
  | nil => simp [bitsTo]
  | cons id I ih =>
    simp only [bitsTo, List.any_cons]
    rw [ih _ (by simpa using hj), ← Bool.or_assoc]
    congr 1
    by_cases h : (id - 1) / W = j
    · subst h
      rw [List.getElem?_set_self (by omega), Option.getD_some, Nat.testBit_or]
      congr 1
      rw [Nat.testBit_two_pow]
      rw [Bool.eq_iff_iff]
      simp only [decide_eq_true_eq, beq_iff_eq]
      have := Nat.div_add_mod (id - 1) W
      omega
    · rw [List.getElem?_set_ne h]
      have : (id - 1 == W * j + t) = false := by
        simp only [beq_eq_false_iff_ne, ne_eq]
        intro e
        apply h
        rw [e, Nat.mul_add_div hW, Nat.div_eq_of_lt ht, Nat.add_zero]
      rw [this, Bool.or_false]

theorem bitsTo_lt (W : Nat) (I L : List Nat) (hW : 0 < W) (hL : ∀ x ∈ L, x < 2 ^ W) : ∀ x ∈ bitsTo W L I, x < 2 ^ W := by
  induction I generalizing L with
  | nil => exact hL
  | cons id I ih =>
    refine ih _ ?_
    intro x hx
    rcases List.mem_or_eq_of_mem_set hx with h | rfl
    · exact hL x h
    · refine Nat.or_lt_two_pow ?_ (Nat.pow_lt_pow_right (by decide) (Nat.mod_lt _ hW))
      rcases h : L[(id - 1) / W]? with _ | y
      · exact Nat.two_pow_pos W
      · exact hL y (List.mem_of_getElem? h)

/-- THE LAW: the bytes of the bitmap laid over the words are the ids' bits laid over the words. -/
theorem words_of_bytes (s : ByteArray) (X I : List Nat) (nb : Nat) (hX : ∀ x ∈ X, x < 2 ^ 64) (hs : s.size = nb) (hnb : (nb + 7) / 8 ≤ X.length)
    (hb : ∀ k, byteAt s k = (bitsTo 8 (List.replicate nb 0) I)[k]?.getD 0) (hI : ∀ id ∈ I, id - 1 < 8 * nb) : orTo s X s.size = bitsTo 64 X I := by
  subst hs
  apply List.ext_getElem?
  intro j
  by_cases hj : j < X.length
  · have h1 : j < (orTo s X s.size).length := by rw [orTo_length]; exact hj
    have h2 : j < (bitsTo 64 X I).length := by rw [bitsTo_length]; exact hj
    rw [List.getElem?_eq_getElem h1, List.getElem?_eq_getElem h2]
    congr 1
    have b1 := orTo_lt s X hX s.size _ (List.getElem_mem h1)
    have b2 := bitsTo_lt 64 I X (by decide) hX _ (List.getElem_mem h2)
    apply Nat.eq_of_testBit_eq
    intro t
    by_cases ht : t < 64
    · have e1 := orTo_bit s X s.size j t hnb ht
      have e2 := bitsTo_bit 64 (by decide) I X j t hj ht
      rw [List.getElem?_eq_getElem h1, Option.getD_some] at e1
      rw [List.getElem?_eq_getElem h2, Option.getD_some] at e2
      rw [e1, e2]
      congr 1
      by_cases hk : 8 * j + t / 8 < s.size
      · rw [hb, bitsTo_bit 8 (by decide) I _ (8 * j + t / 8) (t % 8) (by simpa using hk) (Nat.mod_lt _ (by decide))]
        have e3 : 8 * (8 * j + t / 8) + t % 8 = 64 * j + t := by omega
        simp [hk, e3]
      · have : (I.any fun id => id - 1 == 64 * j + t) = false := by
          rw [List.any_eq_false]
          intro id hid
          have := hI id hid
          simp only [beq_iff_eq]
          omega
        rw [this]
        simp [hk]
    · have h64 : 2 ^ 64 ≤ 2 ^ t := Nat.pow_le_pow_right (by decide) (by omega)
      rw [Nat.testBit_lt_two_pow (Nat.lt_of_lt_of_le b1 h64), Nat.testBit_lt_two_pow (Nat.lt_of_lt_of_le b2 h64)]
  · rw [List.getElem?_eq_none (by rw [orTo_length]; omega), List.getElem?_eq_none (by rw [bitsTo_length]; omega)]

/-- The greatest of the first ids. -/
def maxTo (I : List Nat) : Nat := I.foldl max 0
theorem maxTo_snoc (I : List Nat) (x : Nat) : maxTo (I ++ [x]) = max (maxTo I) x := by simp [maxTo]
theorem foldl_max_ge (I : List Nat) (m : Nat) : m ≤ I.foldl max m := by
  induction I generalizing m with
  | nil => exact Nat.le_refl _
  | cons x I ih => exact Nat.le_trans (Nat.le_max_left m x) (ih _)
theorem le_foldl_max (I : List Nat) (m : Nat) : ∀ x ∈ I, x ≤ I.foldl max m := by
  induction I generalizing m with
  | nil => simp
  | cons y I ih =>
    intro x hx
    rcases List.mem_cons.1 hx with rfl | h
    · exact Nat.le_trans (Nat.le_max_right m x) (foldl_max_ge I _)
    · exact ih _ x h
theorem le_maxTo (I : List Nat) : ∀ x ∈ I, x ≤ maxTo I := le_foldl_max I 0
theorem foldl_max_le (I : List Nat) (m b : Nat) (hm : m ≤ b) (h : ∀ x ∈ I, x ≤ b) : I.foldl max m ≤ b := by
  induction I generalizing m with
  | nil => exact hm
  | cons y I ih => exact ih _ (Nat.max_le.2 ⟨hm, h y (by simp)⟩) (fun x hx => h x (by simp [hx]))
theorem maxTo_le (I : List Nat) (b : Nat) (h : ∀ x ∈ I, x ≤ b) : maxTo I ≤ b := foldl_max_le I 0 b (Nat.zero_le _) h

end Go.Proofs.YbulkdugeFmt
