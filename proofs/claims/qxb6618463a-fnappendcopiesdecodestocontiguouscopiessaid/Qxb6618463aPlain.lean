/-
  Plain mathematics for 'appendCopies' and its decoder: lists of bytes as integers; no Go in sight.
-/
import Derived.RowKit
namespace Go.Proofs.Qxb6618463a.Pl
open Go.RowKit

/-- The k-th byte of x. -/
def byteAt (x : Int) (k : Nat) : Int := x / 2 ^ (8 * k) % 256

/-- The bytes of x below place k that are not 0. -/
def bytesTo (x : Int) : Nat → List Int
  | 0 => []
  | k + 1 => bytesTo x k ++ (if byteAt x k = 0 then [] else [byteAt x k])

/-- The bits that name them. -/
def maskTo (x : Int) : Nat → Nat
  | 0 => 0
  | k + 1 => maskTo x k + (if byteAt x k = 0 then 0 else 2 ^ k)

theorem byteAt_bd (x : Int) (k : Nat) : 0 ≤ byteAt x k ∧ byteAt x k < 256 := by
  unfold byteAt
  generalize x / 2 ^ (8 * k) = y
  omega

theorem maskTo_lt (x : Int) (k : Nat) : maskTo x k < 2 ^ k := by
  induction k with
  | zero => simp [maskTo]
  | succ k ih =>
    simp only [maskTo, Nat.pow_succ]
    split <;> omega

theorem bytesTo_len (x : Int) (k : Nat) : (bytesTo x k).length ≤ k := by
  induction k with
  | zero => simp [bytesTo]
  | succ k ih =>
    simp only [bytesTo, List.length_append]
    split <;> simp <;> omega

theorem bytesTo_hit {x : Int} {k : Nat} (h : ¬ byteAt x k = 0) : bytesTo x (k + 1) = bytesTo x k ++ [byteAt x k] := by simp [bytesTo, h]
theorem bytesTo_miss {x : Int} {k : Nat} (h : byteAt x k = 0) : bytesTo x (k + 1) = bytesTo x k := by simp [bytesTo, h]
theorem maskTo_hit {x : Int} {k : Nat} (h : ¬ byteAt x k = 0) : maskTo x (k + 1) = maskTo x k + 2 ^ k := by simp [maskTo, h]
theorem maskTo_miss {x : Int} {k : Nat} (h : byteAt x k = 0) : maskTo x (k + 1) = maskTo x k := by simp [maskTo, h]

/-- What the decoder has gathered behind k places. -/
theorem low_succ (x : Int) (k : Nat) (hk : k < 4) : x % 2 ^ (8 * (k + 1)) = x % 2 ^ (8 * k) + byteAt x k * 2 ^ (8 * k) := by
  unfold byteAt
  obtain rfl | rfl | rfl | rfl : k = 0 ∨ k = 1 ∨ k = 2 ∨ k = 3 := by omega
  all_goals simp only [Nat.reduceMul, Nat.reduceAdd, Int.reducePow]; omega

/-! ### bits -/
theorem or_off : ∀ i < 4, ∀ m < 2 ^ i, (128 + m) ||| 2 ^ i = 128 + m + 2 ^ i := by decide
theorem or_size : ∀ i < 3, ∀ a < 16, ∀ m < 2 ^ i, (128 + a + 16 * m) ||| (16 * 2 ^ i) = 128 + a + 16 * m + 16 * 2 ^ i := by decide
theorem and_top : ∀ a < 16, ∀ m < 8, (128 + a + 16 * m) &&& 128 = 128 := by decide
theorem and_off : ∀ i < 4, ∀ a < 16, ∀ m < 8, (128 + a + 16 * m) &&& 2 ^ i = a / 2 ^ i % 2 * 2 ^ i := by decide
theorem and_size : ∀ i < 3, ∀ a < 16, ∀ m < 8, (128 + a + 16 * m) &&& (16 * 2 ^ i) = m / 2 ^ i % 2 * (16 * 2 ^ i) := by decide

theorem mask4_bit (x : Int) (i : Nat) (hi : i < 4) : maskTo x 4 / 2 ^ i % 2 = if byteAt x i = 0 then 0 else 1 := by
  simp only [maskTo]
  obtain rfl | rfl | rfl | rfl : i = 0 ∨ i = 1 ∨ i = 2 ∨ i = 3 := by omega
  all_goals (by_cases h0 : byteAt x 0 = 0 <;> by_cases h1 : byteAt x 1 = 0 <;> by_cases h2 : byteAt x 2 = 0 <;> by_cases h3 : byteAt x 3 = 0 <;> simp [h0, h1, h2, h3])
theorem mask3_bit (x : Int) (i : Nat) (hi : i < 3) : maskTo x 3 / 2 ^ i % 2 = if byteAt x i = 0 then 0 else 1 := by
  simp only [maskTo]
  obtain rfl | rfl | rfl : i = 0 ∨ i = 1 ∨ i = 2 := by omega
  all_goals (by_cases h0 : byteAt x 0 = 0 <;> by_cases h1 : byteAt x 1 = 0 <;> by_cases h2 : byteAt x 2 = 0 <;> simp [h0, h1, h2])

/-! ### one instruction; the instructions -/
def head (o s : Int) : Nat := 128 + maskTo o 4 + 16 * maskTo s 3
def one (o s : Int) : List Int := (head o s : Int) :: (bytesTo o 4 ++ bytesTo s 3)

def offAt (offset : Int) (k : Nat) : Int := wrap64 (offset + k * 16777215)
def sizeAt (n : Int) (k : Nat) : Int := if n - k * 16777215 ≤ 16777215 then n - k * 16777215 else 16777215

def encTo (offset n : Int) : Nat → List Int
  | 0 => []
  | k + 1 => encTo offset n k ++ one (offAt offset k) (sizeAt n k)

def want (n : Int) : Nat := if n ≤ 0 then 0 else ((n - 1) / 16777215 + 1).toNat

theorem want_iff (n : Int) (k : Nat) : k < want n ↔ (k : Int) * 16777215 < n := by
  unfold want
  split <;> omega

theorem want_le (n : Int) (h : n ≤ 68719476736) : want n ≤ 4097 := by
  unfold want
  split <;> omega

theorem head_lt (o s : Int) : head o s < 256 := by
  have h1 := maskTo_lt o 4
  have h2 := maskTo_lt s 3
  unfold head; omega

theorem one_len (o s : Int) : (one o s).length ≤ 8 := by
  have h1 := bytesTo_len o 4
  have h2 := bytesTo_len s 3
  simp [one]; omega
theorem one_pos (o s : Int) : 0 < (one o s).length := by simp [one]

theorem encTo_len (offset n : Int) (k : Nat) : (encTo offset n k).length ≤ 8 * k := by
  induction k with
  | zero => simp [encTo]
  | succ k ih =>
    have := one_len (offAt offset k) (sizeAt n k)
    simp only [encTo, List.length_append]
    omega

theorem encTo_prefix (offset n : Int) (k m : Nat) (h : k ≤ m) : ∃ t, encTo offset n m = encTo offset n k ++ t := by
  induction m with
  | zero => obtain rfl : k = 0 := by omega
            exact ⟨[], by simp⟩
  | succ m ih =>
    by_cases e : k = m + 1
    · subst e; exact ⟨[], by simp⟩
    · obtain ⟨t, ht⟩ := ih (by omega)
      exact ⟨t ++ one (offAt offset m) (sizeAt n m), by simp [encTo, ht]⟩

theorem enc_at (offset n : Int) (k m : Nat) (h : k < m) : (encTo offset n k).length + (one (offAt offset k) (sizeAt n k)).length ≤ (encTo offset n m).length ∧
    ∀ j, j < (one (offAt offset k) (sizeAt n k)).length → (encTo offset n m).getD ((encTo offset n k).length + j) 0 = (one (offAt offset k) (sizeAt n k)).getD j 0 := by
  obtain ⟨t, ht⟩ := encTo_prefix offset n (k + 1) m (by omega)
  rw [ht]
  simp only [encTo]
  refine ⟨by simp, fun j hj => ?_⟩
  simp only [List.getD, List.append_assoc]
  rw [List.getElem?_append_right (by omega), Nat.add_sub_cancel_left, List.getElem?_append_left hj]

/-- The offset's bytes, in their places. -/
theorem one_off (o s : Int) (i : Nat) (hi : i < 4) (h : ¬ byteAt o i = 0) : 1 + (bytesTo o i).length < (one o s).length ∧ (one o s).getD (1 + (bytesTo o i).length) 0 = byteAt o i := by
  have e : ∃ t, bytesTo o 4 = bytesTo o i ++ byteAt o i :: t := by
    obtain rfl | rfl | rfl | rfl : i = 0 ∨ i = 1 ∨ i = 2 ∨ i = 3 := by omega
    all_goals simp [bytesTo, h]
  obtain ⟨t, ht⟩ := e
  unfold one
  rw [ht]
  refine ⟨by simp; omega, ?_⟩
  simp only [List.getD, List.append_assoc, Nat.add_comm 1, List.getElem?_cons_succ]
  rw [List.getElem?_append_right (by omega)]
  simp
theorem one_size (o s : Int) (i : Nat) (hi : i < 3) (h : ¬ byteAt s i = 0) : 1 + (bytesTo o 4).length + (bytesTo s i).length < (one o s).length ∧ (one o s).getD (1 + (bytesTo o 4).length + (bytesTo s i).length) 0 = byteAt s i := by
  have e : ∃ t, bytesTo s 3 = bytesTo s i ++ byteAt s i :: t := by
    obtain rfl | rfl | rfl : i = 0 ∨ i = 1 ∨ i = 2 := by omega
    all_goals simp [bytesTo, h]
  obtain ⟨t, ht⟩ := e
  unfold one
  rw [ht]
  refine ⟨by simp; omega, ?_⟩
  rw [show 1 + (bytesTo o 4).length + (bytesTo s i).length = ((bytesTo o 4).length + (bytesTo s i).length) + 1 by omega]
  simp only [List.getD, List.getElem?_cons_succ]
  rw [List.getElem?_append_right (by omega), Nat.add_sub_cancel_left, List.getElem?_append_right (by omega)]
  simp

theorem off_next (offset : Int) (k : Nat) : wrap64 (offAt offset k + 16777215) = offAt offset (k + 1) := by
  unfold offAt wrap64; omega
theorem off_zero (offset : Int) (h1 : -9223372036854775808 ≤ offset) (h2 : offset ≤ 9223372036854775807) : offAt offset 0 = offset := by
  unfold offAt wrap64; omega

/-! ### the row while one instruction is laid -/
def Row1 (ys : List Int) (q : Int) (j : Nat) : List Int := ys ++ ((128 + maskTo q j : Nat) : Int) :: bytesTo q j
def Row2 (ys : List Int) (q s : Int) (j : Nat) : List Int := ys ++ ((128 + maskTo q 4 + 16 * maskTo s j : Nat) : Int) :: (bytesTo q 4 ++ bytesTo s j)

theorem Row1_len (ys : List Int) (q : Int) (j : Nat) (hj : j ≤ 4) : ys.length < (Row1 ys q j).length ∧ (Row1 ys q j).length ≤ ys.length + 5 := by
  have := bytesTo_len q j
  simp [Row1]; omega
theorem Row2_len (ys : List Int) (q s : Int) (j : Nat) (hj : j ≤ 3) : ys.length < (Row2 ys q s j).length ∧ (Row2 ys q s j).length ≤ ys.length + 8 := by
  have := bytesTo_len q 4
  have := bytesTo_len s j
  simp [Row2]; omega
theorem Row1_at (ys : List Int) (q : Int) (j : Nat) : (Row1 ys q j)[ys.length]? = some ((128 + maskTo q j : Nat) : Int) := by simp [Row1]
theorem Row2_at (ys : List Int) (q s : Int) (j : Nat) : (Row2 ys q s j)[ys.length]? = some ((128 + maskTo q 4 + 16 * maskTo s j : Nat) : Int) := by simp [Row2]
theorem set_mid (ys t : List Int) (a b : Int) : (ys ++ a :: t).set ys.length b = ys ++ b :: t := by
  rw [List.set_append_right _ _ (Nat.le_refl _)]; simp
theorem Row1_hit {ys : List Int} {q : Int} {j : Nat} (h : ¬ byteAt q j = 0) : (Row1 ys q j).set ys.length ((128 + maskTo q j + 2 ^ j : Nat) : Int) ++ [byteAt q j] = Row1 ys q (j + 1) := by
  simp only [Row1, set_mid, bytesTo_hit h, maskTo_hit h, List.append_assoc, List.cons_append, Nat.add_assoc]
theorem Row1_miss {ys : List Int} {q : Int} {j : Nat} (h : byteAt q j = 0) : Row1 ys q (j + 1) = Row1 ys q j := by
  simp only [Row1, bytesTo_miss h, maskTo_miss h]
theorem Row2_zero (ys : List Int) (q s : Int) : Row2 ys q s 0 = Row1 ys q 4 := by simp [Row1, Row2, show bytesTo s 0 = [] from rfl, show maskTo s 0 = 0 from rfl]
theorem Row2_hit {ys : List Int} {q s : Int} {j : Nat} (h : ¬ byteAt s j = 0) : (Row2 ys q s j).set ys.length ((128 + maskTo q 4 + 16 * maskTo s j + 16 * 2 ^ j : Nat) : Int) ++ [byteAt s j] = Row2 ys q s (j + 1) := by
  simp only [Row2, set_mid, bytesTo_hit h, maskTo_hit h, List.append_assoc, List.cons_append, Nat.add_assoc, Nat.mul_add]
theorem Row2_miss {ys : List Int} {q s : Int} {j : Nat} (h : byteAt s j = 0) : Row2 ys q s (j + 1) = Row2 ys q s j := by
  simp only [Row2, bytesTo_miss h, maskTo_miss h]
theorem Row2_three (ys : List Int) (q s : Int) : Row2 ys q s 3 = ys ++ one q s := by simp [Row2, one, head]

end Go.Proofs.Qxb6618463a.Pl
