/-
  Plain mathematics: the order of strings by bytes; searching a sorted list. No Go in sight.
-/
import Derived.Lib.Bytealg
namespace Go.Proofs.Qxb6619220a.Pl
open Go

/-- The order of two strings. -/
def cmpS (a b : ByteArray) : Int := Lib.compareBytes a.data.toList b.data.toList

theorem cmp_bd : ∀ x y : List UInt8, -1 ≤ Lib.compareBytes x y ∧ Lib.compareBytes x y ≤ 1
  | [], [] => by simp [Lib.compareBytes]
  | [], _ :: _ => by simp [Lib.compareBytes]
  | _ :: _, [] => by simp [Lib.compareBytes]
  | a :: x, b :: y => by
    have ih := cmp_bd x y
    simp only [Lib.compareBytes]
    split
    · omega
    · split <;> omega

theorem cmpS_bd (a b : ByteArray) : -1 ≤ cmpS a b ∧ cmpS a b ≤ 1 := cmp_bd _ _

theorem cmp_pre : ∀ p x y : List UInt8, Lib.compareBytes (p ++ x) (p ++ y) = Lib.compareBytes x y
  | [], _, _ => rfl
  | a :: p, x, y => by
    have ih := cmp_pre p x y
    simp only [List.cons_append, Lib.compareBytes]
    rw [if_neg (by simp), if_neg (by simp)]
    exact ih

/-- a before b and b not after c: a before c. -/
theorem cmp_trans : ∀ x y z : List UInt8, Lib.compareBytes x y < 0 → Lib.compareBytes y z ≤ 0 → Lib.compareBytes x z < 0
  | [], [], z => by simp [Lib.compareBytes]
  | _ :: _, [], z => by simp [Lib.compareBytes]
  | [], b :: y, [] => by simp [Lib.compareBytes]
  | [], b :: y, c :: z => by simp [Lib.compareBytes]
  | a :: x, b :: y, [] => by simp [Lib.compareBytes]
  | a :: x, b :: y, c :: z => by
    have ih := cmp_trans x y z
    simp only [Lib.compareBytes, UInt8.lt_iff_toNat_lt]
    intro h1 h2
    by_cases h3 : a.toNat < b.toNat
    · by_cases h4 : b.toNat < c.toNat
      · rw [if_pos (by omega)]; decide
      · rw [if_neg h4] at h2
        by_cases h5 : c.toNat < b.toNat
        · rw [if_pos h5] at h2; omega
        · rw [if_pos (by omega)]; decide
    · rw [if_neg h3] at h1
      by_cases h4 : b.toNat < a.toNat
      · rw [if_pos h4] at h1; omega
      · rw [if_neg h4] at h1
        by_cases h5 : b.toNat < c.toNat
        · rw [if_pos (by omega)]; decide
        · rw [if_neg h5] at h2
          by_cases h6 : c.toNat < b.toNat
          · rw [if_pos h6] at h2; omega
          · rw [if_neg h6] at h2
            rw [if_neg (by omega), if_neg (by omega)]
            exact ih h1 h2

theorem cmpS_trans {a b c : ByteArray} (h1 : cmpS a b < 0) (h2 : cmpS b c ≤ 0) : cmpS a c < 0 := cmp_trans _ _ _ h1 h2

theorem cmp_eq : ∀ x y : List UInt8, Lib.compareBytes x y = 0 → x = y
  | [], [] => by simp
  | [], _ :: _ => by simp [Lib.compareBytes]
  | _ :: _, [] => by simp [Lib.compareBytes]
  | a :: x, b :: y => by
    have ih := cmp_eq x y
    simp only [Lib.compareBytes, UInt8.lt_iff_toNat_lt]
    by_cases h1 : a.toNat < b.toNat
    · rw [if_pos h1]; intro h; omega
    · rw [if_neg h1]
      by_cases h2 : b.toNat < a.toNat
      · rw [if_pos h2]; intro h; omega
      · rw [if_neg h2]
        intro h
        rw [ih h, UInt8.toNat_inj.1 (show a.toNat = b.toNat by omega)]

theorem cmpS_eq {a b : ByteArray} (h : cmpS a b = 0) : a = b := ByteArray.ext (Array.toList_inj.1 (cmp_eq _ _ h))

/-! ### what the loop of cmpStr finds -/
def same (a b : ByteArray) (k : Nat) : Prop := a.data.toList.take k = b.data.toList.take k

theorem drop_cons (a : ByteArray) (k : Nat) (h : k < a.size) : a.data.toList = a.data.toList.take k ++ (a[k] :: a.data.toList.drop (k + 1)) := by
  have hl : k < a.data.toList.length := by simpa using h
  have e : a[k] = a.data.toList[k] := rfl
  rw [e, ← List.drop_eq_getElem_cons hl, List.take_append_drop]

theorem cmpS_at {a b : ByteArray} {k : Nat} (hs : same a b k) (ha : k < a.size) (hb : k < b.size) :
    cmpS a b = if a[k] < b[k] then -1 else if b[k] < a[k] then 1 else Lib.compareBytes (a.data.toList.drop (k + 1)) (b.data.toList.drop (k + 1)) := by
  unfold cmpS
  have h := cmp_pre (b.data.toList.take k) (a[k] :: a.data.toList.drop (k + 1)) (b[k] :: b.data.toList.drop (k + 1))
  rw [← drop_cons b k hb, ← hs, ← drop_cons a k ha] at h
  rw [h]
  rfl

theorem same_succ {a b : ByteArray} {k : Nat} (hs : same a b k) (ha : k < a.size) (hb : k < b.size) (h1 : ¬ a[k] < b[k]) (h2 : ¬ b[k] < a[k]) : same a b (k + 1) := by
  have e : a[k] = b[k] := UInt8.toNat_inj.1 (by simp only [UInt8.lt_iff_toNat_lt] at h1 h2; omega)
  unfold same at *
  rw [List.take_succ_eq_append_getElem (by simpa using ha), List.take_succ_eq_append_getElem (by simpa using hb), hs]
  have ea : a[k] = a.data.toList[k]'(by simpa using ha) := rfl
  have eb : b[k] = b.data.toList[k]'(by simpa using hb) := rfl
  rw [← ea, ← eb, e]

theorem cmpS_end {a b : ByteArray} {k : Nat} (hs : same a b k) (hk : k = a.size ∨ k = b.size) (ha : k ≤ a.size) (hb : k ≤ b.size) :
    cmpS a b = if a.size < b.size then -1 else if b.size < a.size then 1 else 0 := by
  unfold cmpS
  have la : a.data.toList.length = a.size := by simp
  have lb : b.data.toList.length = b.size := by simp
  have da := List.take_append_drop k a.data.toList
  have db := List.take_append_drop k b.data.toList
  rw [← da, ← db, hs, cmp_pre]
  have ea : (a.data.toList.drop k).length = a.size - k := by rw [List.length_drop, la]
  have eb : (b.data.toList.drop k).length = b.size - k := by rw [List.length_drop, lb]
  generalize a.data.toList.drop k = x at *
  generalize b.data.toList.drop k = y at *
  match x, y with
  | [], [] => simp at ea eb; rw [if_neg (by omega), if_neg (by omega)]; rfl
  | [], _ :: _ => simp at ea eb; rw [if_pos (by omega)]; rfl
  | _ :: _, [] => simp at ea eb; rw [if_neg (by omega), if_pos (by omega)]; rfl
  | _ :: _, _ :: _ => simp at ea eb; omega

/-! ### sorted lists -/
def ascP (ss : List ByteArray) : Prop := ∀ i, i + 1 < ss.length → cmpS (ss.getD i ByteArray.empty) (ss.getD (i + 1) ByteArray.empty) < 0

theorem asc_lt {ss : List ByteArray} (h : ascP ss) : ∀ j i, i < j → j < ss.length → cmpS (ss.getD i ByteArray.empty) (ss.getD j ByteArray.empty) < 0
  | 0, i => by omega
  | j + 1, i => by
    intro hij hj
    have hs := h j hj
    by_cases e : i = j
    · subst e; exact hs
    · exact cmpS_trans (asc_lt h j i (by omega) (by omega)) (by omega)

end Go.Proofs.Qxb6619220a.Pl
